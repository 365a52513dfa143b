import PyProof.Rows.All
import Wide.All
import OpenK.AllK
import Wide.FinOn
import PySem.Challenge.RW_nb0038_01
set_option Elab.async false

section
open PySem PySem.W PyProof.Rows
namespace Mine
set_option maxRecDepth 100000 in
set_option maxHeartbeats 8000000 in
open_top hd for PySem.Challenge.rw_nb0038_01
end Mine
end

section
/-! the plain law: what the three writers write, and how two writings join -/
namespace Mine

/-- line ends as CR LF -/
def fixE : List Nat → List Nat
  | [] => []
  | 13 :: 10 :: r => 13 :: 10 :: fixE r
  | c :: r => if c = 10 ∨ c = 13 then 13 :: 10 :: fixE r else c :: fixE r

/-- a dot at a line's start doubled; b: at a line's start -/
def dots : Bool → List Nat → List Nat
  | _, [] => []
  | b, c :: r => if b = true ∧ c = 46 then 46 :: 46 :: dots false r else c :: dots (c == 10) r

theorem fixE_crlf (r : List Nat) : fixE (13 :: 10 :: r) = 13 :: 10 :: fixE r := by rw [fixE]
theorem fixE_lf (r : List Nat) : fixE (10 :: r) = 13 :: 10 :: fixE r := by
  rw [fixE] <;> simp
theorem fixE_cr (r : List Nat) (h : r.head? ≠ some 10) : fixE (13 :: r) = 13 :: 10 :: fixE r := by
  cases r with
  | nil => simp [fixE]
  | cons c r => rw [fixE] <;> simp_all
theorem fixE_other (c : Nat) (r : List Nat) (h1 : c ≠ 10) (h2 : c ≠ 13) : fixE (c :: r) = c :: fixE r := by
  rw [fixE] <;> simp_all

theorem fixE_append (a b : List Nat) (h : ¬ (a.getLast? = some 13 ∧ b.head? = some 10)) : fixE (a ++ b) = fixE a ++ fixE b := by
  induction a using fixE.induct with
  | case1 => simp [fixE]
  | case2 r ih =>
    have h' : ¬ (r.getLast? = some 13 ∧ b.head? = some 10) := by
      rintro ⟨h1, h2⟩
      refine h ⟨?_, h2⟩
      cases r with
      | nil => simp at h1
      | cons x r => simpa [List.getLast?_cons_cons] using h1
    simp only [List.cons_append, fixE_crlf, ih h']
  | case3 c r hc hor ih =>
    rcases hor with rfl | rfl
    · have h' : ¬ (r.getLast? = some 13 ∧ b.head? = some 10) := by
        rintro ⟨h1, h2⟩
        refine h ⟨?_, h2⟩
        cases r with
        | nil => simp at h1
        | cons x r => simpa [List.getLast?_cons_cons] using h1
      simp only [List.cons_append, fixE_lf, ih h']
    · cases r with
      | nil =>
        have : b.head? ≠ some 10 := fun e => h ⟨by simp, e⟩
        simp only [List.cons_append, List.nil_append]
        rw [fixE_cr _ this, fixE_cr _ (by simp)]
        simp [fixE]
      | cons x r =>
        have h' : ¬ ((x :: r).getLast? = some 13 ∧ b.head? = some 10) := by
          rintro ⟨h1, h2⟩
          exact h ⟨by simpa [List.getLast?_cons_cons] using h1, h2⟩
        have hx : x ≠ 10 := fun e => hc _ rfl (by rw [e])
        rw [List.cons_append, fixE_cr _ (by simpa using hx), fixE_cr _ (by simpa using hx), ih h']
        simp
  | case4 c r hc hor ih =>
    have h1 : c ≠ 10 := fun e => hor (.inl e)
    have h2 : c ≠ 13 := fun e => hor (.inr e)
    have h' : ¬ (r.getLast? = some 13 ∧ b.head? = some 10) := by
      rintro ⟨h3, h4⟩
      refine h ⟨?_, h4⟩
      cases r with
      | nil => simp at h3
      | cons x r => simpa [List.getLast?_cons_cons] using h3
    rw [List.cons_append, fixE_other _ _ h1 h2, fixE_other _ _ h1 h2, ih h', List.cons_append]

theorem fixE_meet (a b : List Nat) : fixE ((a ++ [13]) ++ 10 :: b) = fixE (a ++ [13]) ++ fixE b := by
  have e : (a ++ [13]) ++ 10 :: b = a ++ 13 :: 10 :: b := by simp
  rw [e, fixE_append a (13 :: 10 :: b) (by simp), fixE_append a [13] (by simp), fixE_crlf, fixE_cr [] (by simp)]
  simp [fixE]

theorem fixE_ne_nil (a : List Nat) (h : a ≠ []) : fixE a ≠ [] := by
  cases a with
  | nil => exact absurd rfl h
  | cons c r =>
    unfold fixE
    split
    · simp at *
    · simp
    · split <;> simp

theorem dots_cons (b : Bool) (c : Nat) (r : List Nat) : dots b (c :: r) = if b = true ∧ c = 46 then 46 :: 46 :: dots false r else c :: dots (c == 10) r := by rw [dots]
/-- at a line's start behind x -/
def atStart (b : Bool) (x : List Nat) : Bool := match x.getLast? with | some c => c == 10 | none => b
theorem atStart_cons (b b' : Bool) (c d : Nat) (r : List Nat) : atStart b (c :: d :: r) = atStart b' (d :: r) := by
  unfold atStart
  rw [List.getLast?_cons_cons, List.getLast?_cons]
theorem dots_append (b : Bool) (x y : List Nat) : dots b (x ++ y) = dots b x ++ dots (atStart b x) y := by
  induction x generalizing b with
  | nil => simp [dots, atStart]
  | cons c r ih =>
    rw [List.cons_append, dots_cons, dots_cons]
    split
    · rename_i h
      obtain ⟨rfl, rfl⟩ := h
      rw [ih]
      cases r with
      | nil => simp [atStart]
      | cons x r => rw [atStart_cons true false]; rfl
    · rw [ih]
      cases r with
      | nil => simp [atStart]
      | cons x r => rw [atStart_cons b (c == 10)]; rfl

theorem dots_getLast? (b : Bool) (x : List Nat) : (dots b x).getLast? = x.getLast? := by
  induction x generalizing b with
  | nil => rfl
  | cons c r ih =>
    unfold dots
    split
    · rename_i h
      obtain ⟨rfl, rfl⟩ := h
      cases r with
      | nil => simp [dots]
      | cons x r =>
        have := ih false
        rw [List.getLast?_cons_cons, List.getLast?_cons, this]
        simp [List.getLast?_cons]
    · have := ih (c == 10)
      rw [List.getLast?_cons, List.getLast?_cons, this]

theorem dots_head? (b : Bool) (x : List Nat) : (dots b x).head? = x.head? := by
  cases x with
  | nil => rfl
  | cons c r =>
    unfold dots
    split
    · rename_i h
      obtain ⟨rfl, rfl⟩ := h
      simp
    · simp

theorem dots_true_dot (r : List Nat) : dots true (46 :: r) = 46 :: 46 :: dots false r := by simp [dots]
theorem dots_false_dot (r : List Nat) : dots false (46 :: r) = 46 :: dots false r := by simp [dots]
theorem dots_not_dot (x : List Nat) (h : x.head? ≠ some 46) : dots true x = dots false x := by
  cases x with
  | nil => rfl
  | cons c r =>
    have hc : c ≠ 46 := by simpa using h
    simp [dots, hc]

/-- the three writers -/
inductive Wr where
  | ends | dots | both
  deriving DecidableEq

/-- what a writer writes -/
def out : Wr → List Nat → List Nat
  | .ends, x => fixE x
  | .dots, x => dots true x
  | .both, x => dots true (fixE x)

/-- a word: the writing, begins with LF, ends in CR, doubles dots -/
abbrev Word := List Nat × Bool × Bool × Bool

def wordOf (w : Wr) (x : List Nat) : Word :=
  match w with
  | .dots => (out .dots x, false, false, true)
  | .ends => (out .ends x, x.take 1 == [10], x.drop (x.length - 1) == [13], false)
  | .both => (out .both x, x.take 1 == [10], x.drop (x.length - 1) == [13], true)

def single (w : Wr) (c : Nat) : Word :=
  if w ≠ .dots ∧ (c = 13 ∨ c = 10) then ([13, 10], c == 10, c == 13, w == .both)
  else (if w ≠ .ends ∧ c = 46 then [46, 46] else [c], false, false, w != .ends)

def joined (l r : Word) : Word :=
  (l.1 ++ (if l.2.2.1 = true ∧ r.2.1 = true then r.1.drop 2
    else if l.2.2.2 = true ∧ r.1.take 1 = [46] ∧ l.1.drop (l.1.length - 1) ≠ [10] then r.1.drop 1 else r.1), l.2.1, r.2.2.1, l.2.2.2)

theorem word_single (w : Wr) (c : Nat) : wordOf w [c] = single w c := by
  cases w <;> simp only [wordOf, single, out]
  · by_cases h1 : c = 10
    · subst h1; simp [fixE]
    · by_cases h2 : c = 13
      · subst h2; simp [fixE]
      · simp [fixE, h1, h2]
  · by_cases h1 : c = 46
    · subst h1; simp [dots]
    · simp [dots, h1]
  · by_cases h1 : c = 10
    · subst h1; simp [fixE, dots]
    · by_cases h2 : c = 13
      · subst h2; simp [fixE, dots]
      · by_cases h3 : c = 46
        · subst h3; simp [fixE, dots]
        · simp [fixE, dots, h1, h2, h3]

theorem take1_eq (x : List Nat) (c : Nat) : (x.take 1 == [c]) = decide (x.head? = some c) := by
  cases x with
  | nil => simp
  | cons a r => by_cases h : a = c <;> simp [List.take, h]
theorem take1_iff (x : List Nat) (c : Nat) : x.take 1 = [c] ↔ x.head? = some c := by
  cases x with
  | nil => simp
  | cons a r => simp [List.take]
theorem drop_last (x : List Nat) : x.drop (x.length - 1) = x.getLast?.toList := by
  rcases List.eq_nil_or_concat x with rfl | ⟨y, c, rfl⟩
  · simp
  · simp
theorem last_eq (x : List Nat) (c : Nat) : (x.drop (x.length - 1) == [c]) = decide (x.getLast? = some c) := by
  rw [drop_last]
  cases x.getLast? with
  | none => simp
  | some a => by_cases h : a = c <;> simp [h]
theorem last_iff (x : List Nat) (c : Nat) : x.drop (x.length - 1) = [c] ↔ x.getLast? = some c := by
  rw [drop_last]
  cases x.getLast? with
  | none => simp
  | some a => simp

theorem getLast?_append_ne {x y : List Nat} (h : y ≠ []) : (x ++ y).getLast? = y.getLast? := by
  rw [List.getLast?_append]
  cases hy : y.getLast? with
  | none => exact absurd (List.getLast?_eq_none_iff.mp hy) h
  | some c => rfl
theorem head?_append_ne {x y : List Nat} (h : x ≠ []) : (x ++ y).head? = x.head? := by
  cases x with
  | nil => exact absurd rfl h
  | cons c r => rfl

/-- dots of two joined -/
theorem dots_joined (x y : List Nat) (hx : x ≠ []) :
    dots true (x ++ y) = dots true x ++ (if y.head? = some 46 ∧ x.getLast? ≠ some 10 then (dots true y).drop 1 else dots true y) := by
  rw [dots_append]
  obtain ⟨z, c, rfl⟩ : ∃ z c, x = z ++ [c] := by
    rcases List.eq_nil_or_concat x with rfl | ⟨y, c, rfl⟩
    · exact absurd rfl hx
    · exact ⟨y, c, by simp⟩
  simp only [atStart, List.getLast?_append, List.getLast?_singleton, Option.some_or]
  congr 1
  by_cases hc : c = 10
  · subst hc; simp
  · have hb : (c == 10) = false := by simpa using hc
    rw [hb]
    by_cases hy : y.head? = some 46
    · cases y with
      | nil => simp at hy
      | cons d r =>
        have : d = 46 := by simpa using hy
        subst this
        simp [dots, hc]
    · rw [if_neg (by simp [hy]), dots_not_dot y hy]

theorem word_joined (w : Wr) (a b : List Nat) (ha : a ≠ []) (hb : b ≠ []) : wordOf w (a ++ b) = joined (wordOf w a) (wordOf w b) := by
  have hE : fixE (a ++ b) = fixE a ++ (if a.getLast? = some 13 ∧ b.head? = some 10 then (fixE b).drop 2 else fixE b) := by
    by_cases h : a.getLast? = some 13 ∧ b.head? = some 10
    · rw [if_pos h]
      obtain ⟨z, c, rfl⟩ : ∃ z c, a = z ++ [c] := by
        rcases List.eq_nil_or_concat a with rfl | ⟨y, c, rfl⟩
        · exact absurd rfl ha
        · exact ⟨y, c, by simp⟩
      cases b with
      | nil => exact absurd rfl hb
      | cons d r =>
        obtain ⟨h1, h2⟩ := h
        have h1 : c = 13 := by simpa using h1
        have h2 : d = 10 := by simpa using h2
        subst h1; subst h2
        rw [fixE_meet, fixE_lf]
        simp
    · rw [if_neg h, fixE_append _ _ h]
  have h1 : ((a ++ b).take 1 == [10]) = (a.take 1 == [10]) := by rw [take1_eq, take1_eq, head?_append_ne ha]
  have h2 : ((a ++ b).drop ((a ++ b).length - 1) == [13]) = (b.drop (b.length - 1) == [13]) := by rw [last_eq, last_eq, getLast?_append_ne hb]
  cases w with
  | ends =>
    simp only [wordOf, joined, out, h1, h2, hE]
    congr 2
    simp [take1_iff, last_iff]
  | dots =>
    simp only [wordOf, joined, out, dots_joined a b ha]
    congr 2
    have hl : (dots true a).getLast? = a.getLast? := dots_getLast? _ _
    have hh : (dots true b).head? = b.head? := dots_head? _ _
    by_cases c1 : b.head? = some 46 <;> by_cases c2 : a.getLast? = some 10 <;> simp [take1_iff, last_iff, hl, hh, c1, c2]
  | both =>
    simp only [wordOf, joined, out, h1, h2, hE]
    congr 2
    have hfa : fixE a ≠ [] := fixE_ne_nil a ha
    have hl : (dots true (fixE a)).getLast? = (fixE a).getLast? := dots_getLast? _ _
    have hh : (dots true (fixE b)).head? = (fixE b).head? := dots_head? _ _
    by_cases h : a.getLast? = some 13 ∧ b.head? = some 10
    · obtain ⟨z, c, rfl⟩ : ∃ z c, a = z ++ [c] := by
        rcases List.eq_nil_or_concat a with rfl | ⟨y, c, rfl⟩
        · exact absurd rfl ha
        · exact ⟨y, c, by simp⟩
      have h1' : c = 13 := by simpa using h.1
      subst h1'
      cases b with
      | nil => exact absurd rfl hb
      | cons d r =>
        have h2' : d = 10 := by simpa using h.2
        subst h2'
        simp only [if_pos h, fixE_lf, List.drop_succ_cons, List.drop_zero]
        rw [dots_joined _ _ hfa]
        have e1 : (fixE (z ++ [13])).getLast? = some 10 := by
          rw [fixE_append z [13] (by simp), fixE_cr [] (by simp)]
          simp [fixE]
        simp [e1, dots]
    · simp only [if_neg h]
      rw [dots_joined _ _ hfa]
      have hc : ¬ (((a.drop (a.length - 1) == [13]) = true) ∧ ((b.take 1 == [10]) = true)) := by
        rw [last_eq, take1_eq]; simpa using h
      rw [if_neg hc]
      congr 1
      by_cases c1 : (fixE b).head? = some 46 <;> by_cases c2 : (fixE a).getLast? = some 10 <;> simp [take1_iff, last_iff, hl, hh, c1, c2]

/-- from the first on -/
theorem fold_left (w : Wr) (c : Nat) (r : List Nat) : (r.map (single w)).foldl joined (single w c) = wordOf w (c :: r) := by
  have : ∀ (a : List Nat), a ≠ [] → ∀ r : List Nat, (r.map (single w)).foldl joined (wordOf w a) = wordOf w (a ++ r) := by
    intro a ha r
    induction r generalizing a with
    | nil => simp
    | cons d r ih =>
      rw [List.map_cons, List.foldl_cons, ← word_single, ← word_joined w a [d] ha (by simp), ih _ (by simp)]
      simp
  have := this [c] (by simp) r
  rwa [word_single] at this

/-- from the last back -/
theorem fold_back (w : Wr) (r : List Nat) (c : Nat) : (r.reverse.map (single w)).foldl (fun acc x => joined x acc) (single w c) = wordOf w (r ++ [c]) := by
  have : ∀ (r : List Nat) (b : List Nat), b ≠ [] → (r.reverse.map (single w)).foldl (fun acc x => joined x acc) (wordOf w b) = wordOf w (r ++ b) := by
    intro r
    induction r with
    | nil => intro b hb; simp
    | cons d r ih =>
      intro b hb
      rw [List.reverse_cons, List.map_append, List.foldl_append, ih b hb]
      simp only [List.map_cons, List.map_nil, List.foldl_cons, List.foldl_nil]
      rw [← word_single, ← word_joined w [d] (r ++ b) (by simp) (by simp [hb])]
      simp
  have := this r [c] (by simp)
  rwa [word_single] at this

end Mine

end

section
/-! the pattern machine on the two codes -/
namespace Mine
open PySem PySem.Sre

theorem runFor_done (n : Nat) (m : M) (h : m.outcome.isSome = true) : M.runFor n m = m := by
  cases n with
  | zero => rfl
  | succ n => simp [M.runFor, h]
theorem runFor_succ (n : Nat) (m : M) : M.runFor (n + 1) m = M.runFor n m.step := by
  rw [M.runFor]
  split
  · rename_i h
    have : m.step = m := by unfold M.step; rw [if_pos h]
    rw [this, runFor_done n m h]
  · rfl
theorem runFor_add (a b : Nat) (m : M) : M.runFor (a + b) m = M.runFor b (M.runFor a m) := by
  induction a generalizing m with
  | zero => rw [Nat.zero_add]; rfl
  | succ a ih => rw [Nat.add_right_comm, runFor_succ, runFor_succ, ih]
theorem step_exec {m : M} (h1 : m.outcome = none) (h2 : m.answer = none) (h3 : m.pc < m.code.size) : m.step = m.exec := by
  unfold M.step; rw [h1, h2]; simp [h3]
theorem step_back {m : M} {yes : Bool} {f : Sre.Frame} {rest : List Sre.Frame} (h1 : m.outcome = none) (h2 : m.answer = some yes) (h3 : m.frames = f :: rest) :
    m.step = M.resume { m with answer := none, frames := rest, weight := m.weight - (1 + f.kept.marks.size), pc := f.pc, pos := f.pos, outermost := f.outermost } f yes := by
  unfold M.step; rw [h1, h2, h3]; simp
theorem step_last {m : M} {yes : Bool} (h1 : m.outcome = none) (h2 : m.answer = some yes) (h3 : m.frames = []) :
    m.step = { m with outcome := some (if yes then .matched else .failed) } := by
  unfold M.step; rw [h1, h2, h3]; simp

def code1 : Array Nat := #[14, 4, 0, 1, 1, 6, 1, 16, 46, 1]
def code3 : Array Nat := #[14, 9, 4, 1, 2, 16, 10, 16, 13, 0, 7, 7, 16, 13, 16, 10, 15, 18, 5, 16, 10, 15, 13, 11, 16, 13, 5, 5, 0, 16, 10, 1, 15, 2, 0, 1]

/-- what is told of a run's end -/
def Ends (m : M) (r : Option (Nat × Nat)) : Prop :=
  match r with
  | some (b, e) => m.outcome = some .matched ∧ m.start = b ∧ m.handed = e
  | none => m.outcome = some .failed

/-- an attempt begun at s, at work -/
def D (text : Array Nat) (s : Nat) (first : Bool) (seen : Seen) (pc pos handed : Nat) (answer : Option Bool) : M :=
  { code := code1, text, lim := text.size, start := s, lastStart := text.size, pc := pc, pos := pos, handed := handed, outermost := first, marks := #[],
    frames := [{ wait := .nextStart, pc := 5, pos := s, outermost := first }], weight := 1, seen := seen, answer := answer }

theorem D_start (text : Array Nat) (s : Nat) (h : s < text.size) : forSearch code1 text 0 s text.size false = D text s true (({} : Seen).add 14) 5 s s none := by
  unfold forSearch
  have h1 : (header code1).1 = 1 := rfl
  rw [h1]
  have hc : (decide (s > text.size) || decide (text.size - s < 1)) = false := by simp; omega
  simp only [hc]
  rfl

theorem D_start_none (text : Array Nat) : ∃ m, M.runFor 1 (forSearch code1 text 0 text.size text.size false) = m ∧ Ends m none := by
  have hc : (decide (text.size > text.size) || decide (text.size - text.size < 1)) = true := by simp
  obtain ⟨m, e, h1, h2, h3⟩ : ∃ m, forSearch code1 text 0 text.size text.size false = m ∧ m.answer = some false ∧ m.frames = [] ∧ m.outcome = none := by
    refine ⟨_, rfl, ?_⟩
    unfold forSearch
    have h1 : (header code1).1 = 1 := rfl
    rw [h1]
    simp only [hc]
    exact ⟨rfl, rfl, rfl⟩
  rw [e, runFor_succ, step_last h3 h1 h2]
  exact ⟨_, rfl, rfl⟩

/-- is a dot at a line's start at p -/
def dotAt (text : Array Nat) (p : Nat) : Bool := decide (p < text.size) && (p == 0 || text.getD (p - 1) 0 == 10) && text.getD p 0 == 46

theorem D_at (text : Array Nat) (s : Nat) (first : Bool) (seen : Seen) (b : Bool) (h : (s == 0 || text.getD (s - 1) 0 == 10) = b) :
    (D text s first seen 5 s s none).step = if b = true then D text s first ((seen.add 6).add 44) 7 s s none else D text s first ((seen.add 6).add 44) 5 s s (some false) := by
  rw [step_exec rfl rfl (by show (5 : Nat) < 10; decide)]
  have e : M.exec (D text s first seen 5 s s none) = (match M.isAt (D text s first (seen.add 6) 5 s s none) 1 with
      | .error why => M.stick (D text s first (seen.add 6) 5 s s none) why
      | .ok yes => if yes = true then D text s first ((seen.add 6).add 44) 7 s s none else D text s first ((seen.add 6).add 44) 5 s s (some false)) := rfl
  rw [e]
  have e2 : M.isAt (D text s first (seen.add 6) 5 s s none) 1 = .ok (s == 0 || text.getD (s - 1) 0 == 10) := rfl
  rw [e2, h]

theorem D_lit (text : Array Nat) (s : Nat) (first : Bool) (seen : Seen) (b : Bool) (h : (decide (s < text.size) && text.getD s 0 == 46) = b) :
    (D text s first seen 7 s s none).step = if b = true then D text s first (seen.add 16) 9 (s + 1) s none else D text s first (seen.add 16) 7 s s (some false) := by
  rw [step_exec rfl rfl (by show (7 : Nat) < 10; decide)]
  have e : M.exec (D text s first seen 7 s s none) = (if s ≥ text.size then D text s first (seen.add 16) 7 s s (some false) else
      match (Except.ok (text.getD s 0 == 46, seen.add 16) : Except String (Bool × Seen)) with
      | .error why => M.stick (D text s first (seen.add 16) 7 s s none) why
      | .ok (false, seen) => D text s first seen 7 s s (some false)
      | .ok (true, seen) => D text s first seen 9 (s + 1) s none) := rfl
  rw [e]
  by_cases hs : s ≥ text.size
  · rw [if_pos hs]
    have hd : decide (s < text.size) = false := decide_eq_false (Nat.not_lt.mpr hs)
    rw [hd, Bool.false_and] at h
    rw [← h]; rfl
  · rw [if_neg hs]
    have hd : decide (s < text.size) = true := decide_eq_true (Nat.lt_of_not_le hs)
    rw [hd, Bool.true_and] at h
    rw [h]
    cases b <;> rfl

theorem D_hit (text : Array Nat) (s : Nat) (first : Bool) (seen : Seen) (h : dotAt text s = true) :
    ∃ m, M.runFor 5 (D text s first seen 5 s s none) = m ∧ Ends m (some (s, s + 1)) := by
  unfold dotAt at h
  rw [Bool.and_eq_true, Bool.and_eq_true] at h
  obtain ⟨⟨h1, h2⟩, h3⟩ := h
  rw [runFor_succ, D_at text s first seen true h2, if_pos rfl, runFor_succ, D_lit text s first _ true (by rw [h1, h3]; rfl), if_pos rfl]
  generalize ((seen.add 6).add 44).add 16 = sn
  rw [runFor_succ, step_exec rfl rfl (by show (9 : Nat) < 10; decide)]
  have e : M.exec (D text s first sn 9 (s + 1) s none) = (if (first && ((false && (s + 1 != text.size)) || (false && (s + 1 == s)))) = true then D text s first (sn.add 1) 9 (s + 1) s (some false)
      else D text s first (sn.add 1) 9 (s + 1) (s + 1) (some true)) := rfl
  rw [e, if_neg (by simp)]
  rw [runFor_succ, step_back (f := { wait := .nextStart, pc := 5, pos := s, outermost := first }) (yes := true) (rest := []) rfl rfl rfl]
  have e2 : ∀ m : M, M.resume m { wait := .nextStart, pc := 5, pos := s, outermost := first } true = m.say true := fun _ => rfl
  rw [e2, runFor_succ, step_last (yes := true) rfl rfl rfl]
  exact ⟨_, rfl, rfl, rfl, rfl⟩

theorem D_back (text : Array Nat) (s : Nat) (first : Bool) (seen : Seen) (pc : Nat) (h : s < text.size) :
    (D text s first seen pc s s (some false)).step = D text (s + 1) false seen 5 (s + 1) (s + 1) none := by
  rw [step_back (f := { wait := .nextStart, pc := 5, pos := s, outermost := first }) (yes := false) (rest := []) rfl rfl rfl]
  have e : ∀ m : M, M.resume m { wait := .nextStart, pc := 5, pos := s, outermost := first } false = if s < m.lastStart then M.attemptFrom { m with mustAdvance := false } (s + 1) false else m.say false := fun _ => rfl
  rw [e]
  have e2 : ∀ x : M, x.lastStart = text.size → (if s < x.lastStart then M.attemptFrom { x with mustAdvance := false } (s + 1) false else x.say false) = M.attemptFrom { x with mustAdvance := false } (s + 1) false := by
    intro x hx; rw [if_pos (by rw [hx]; exact h)]
  rw [e2 _ rfl]
  rfl

theorem D_back_end (text : Array Nat) (first : Bool) (seen : Seen) (pc : Nat) :
    ∃ m, M.runFor 2 (D text text.size first seen pc text.size text.size (some false)) = m ∧ Ends m none := by
  rw [runFor_succ, step_back (f := { wait := .nextStart, pc := 5, pos := text.size, outermost := first }) (yes := false) (rest := []) rfl rfl rfl]
  have e : ∀ m : M, M.resume m { wait := .nextStart, pc := 5, pos := text.size, outermost := first } false = if text.size < m.lastStart then M.attemptFrom { m with mustAdvance := false } (text.size + 1) false else m.say false := fun _ => rfl
  rw [e]
  have e2 : ∀ x : M, x.lastStart = text.size → (if text.size < x.lastStart then M.attemptFrom { x with mustAdvance := false } (text.size + 1) false else x.say false) = x.say false := by
    intro x hx; rw [if_neg (by rw [hx]; exact Nat.lt_irrefl _)]
  rw [e2 _ rfl, runFor_succ, step_last (yes := false) rfl rfl rfl]
  exact ⟨_, rfl, rfl⟩

/-- a miss at s leads to s + 1 within three steps -/
theorem D_miss (text : Array Nat) (s : Nat) (first : Bool) (seen : Seen) (h : dotAt text s = false) (hs : s < text.size) :
    ∃ k seen', k ≤ 3 ∧ M.runFor k (D text s first seen 5 s s none) = D text (s + 1) false seen' 5 (s + 1) (s + 1) none := by
  cases h2 : (s == 0 || text.getD (s - 1) 0 == 10) with
  | false =>
    refine ⟨2, (seen.add 6).add 44, by decide, ?_⟩
    rw [runFor_succ, D_at text s first seen false h2, if_neg (by decide), runFor_succ, D_back text s first _ 5 hs]
    rfl
  | true =>
    refine ⟨3, ((seen.add 6).add 44).add 16, by decide, ?_⟩
    have h3 : (decide (s < text.size) && text.getD s 0 == 46) = false := by
      unfold dotAt at h; rw [h2, Bool.and_true] at h; exact h
    rw [runFor_succ, D_at text s first seen true h2, if_pos rfl, runFor_succ, D_lit text s first _ false h3, if_neg (by decide), runFor_succ, D_back text s first _ 7 hs]
    rfl
theorem D_miss_end (text : Array Nat) (first : Bool) (seen : Seen) :
    ∃ k m, k ≤ 5 ∧ M.runFor k (D text text.size first seen 5 text.size text.size none) = m ∧ Ends m none := by
  cases h2 : (text.size == 0 || text.getD (text.size - 1) 0 == 10) with
  | false =>
    obtain ⟨m, e, he⟩ := D_back_end text first ((seen.add 6).add 44) 5
    refine ⟨3, m, by decide, ?_, he⟩
    rw [runFor_succ, D_at text _ first seen false h2, if_neg (by decide)]
    exact e
  | true =>
    obtain ⟨m, e, he⟩ := D_back_end text first (((seen.add 6).add 44).add 16) 7
    refine ⟨4, m, by decide, ?_, he⟩
    rw [runFor_succ, D_at text _ first seen true h2, if_pos rfl, runFor_succ, D_lit text _ first _ false (by simp), if_neg (by decide)]
    exact e

/-- the next dot at a line's start, from s on, k places looked at -/
def nextDot (text : Array Nat) : Nat → Nat → Option Nat
  | 0, _ => none
  | k + 1, s => if dotAt text s = true then some s else nextDot text k (s + 1)

theorem D_run (text : Array Nat) : ∀ (k s : Nat) (first : Bool) (seen : Seen), s + k = text.size →
    ∃ n m, n ≤ 3 * k + 5 ∧ M.runFor n (D text s first seen 5 s s none) = m ∧ Ends m ((nextDot text k s).map fun p => (p, p + 1)) := by
  intro k
  induction k with
  | zero =>
    intro s first seen h
    have : s = text.size := by omega
    subst this
    obtain ⟨n, m, h1, h2, h3⟩ := D_miss_end text first seen
    exact ⟨n, m, by omega, h2, h3⟩
  | succ k ih =>
    intro s first seen h
    cases hd : dotAt text s with
    | true =>
      obtain ⟨m, h1, h2⟩ := D_hit text s first seen hd
      refine ⟨5, m, by omega, h1, ?_⟩
      rw [nextDot, if_pos hd]; exact h2
    | false =>
      obtain ⟨k₁, seen', h1, h2⟩ := D_miss text s first seen hd (by omega)
      obtain ⟨n, m, h3, h4, h5⟩ := ih (s + 1) false seen' (by omega)
      refine ⟨k₁ + n, m, by omega, ?_, ?_⟩
      · rw [runFor_add, h2, h4]
      · rw [nextDot, if_neg (by rw [hd]; decide)]; exact h5

theorem search1 (text : Array Nat) (s : Nat) (h : s ≤ text.size) :
    ∃ n m, n ≤ 3 * text.size + 5 ∧ M.runFor n (forSearch code1 text 0 s text.size false) = m ∧ Ends m ((nextDot text (text.size - s) s).map fun p => (p, p + 1)) := by
  by_cases hs : s < text.size
  · rw [D_start text s hs]
    obtain ⟨n, m, h1, h2, h3⟩ := D_run text (text.size - s) s true (({} : Seen).add 14) (by omega)
    exact ⟨n, m, by omega, h2, h3⟩
  · have : s = text.size := by omega
    subst this
    obtain ⟨m, h1, h2⟩ := D_start_none text
    rw [Nat.sub_self]
    exact ⟨1, m, by omega, h1, h2⟩

end Mine

end

section
namespace Mine
open PySem PySem.Sre

/-- the machine on code3 -/
def G (text : Array Nat) (s : Nat) (frames : List Sre.Frame) (weight : Nat) (outermost : Bool) (seen : Seen) (pc pos handed : Nat) (answer : Option Bool) : M :=
  { code := code3, text, lim := text.size, start := s, lastStart := text.size, pc := pc, pos := pos, handed := handed, outermost := outermost, marks := #[],
    frames := frames, weight := weight, seen := seen, answer := answer }
def fr0 (s : Nat) : Sre.Frame := { wait := .nextStart, pc := 10, pos := s, outermost := true }
def frB (s alt : Nat) : Sre.Frame := { wait := .nextBranch, pc := alt, pos := s, outermost := true }
def frL (s : Nat) : Sre.Frame := { wait := .lookNot, pc := 26, pos := s, outermost := true }

/-- a sign that the pattern may begin with -/
def endAt (text : Array Nat) (p : Nat) : Bool := text.getD p 0 == 10 || text.getD p 0 == 13

theorem inSet3 (c : Nat) (seen : Seen) : ∃ seen', inSet code3 c code3.size 5 true seen = .ok (c == 10 || c == 13, seen') := by
  have e : inSet code3 c code3.size 5 true seen = (if (c == 10) = true then .ok (true, seen.add 16) else if (c == 13) = true then .ok (true, (seen.add 16).add 16) else .ok (false, ((seen.add 16).add 16).add 0)) := rfl
  rw [e]
  cases h1 : c == 10 with
  | true => exact ⟨_, rfl⟩
  | false =>
    cases h2 : c == 13 with
    | true => exact ⟨_, rfl⟩
    | false => exact ⟨_, rfl⟩

/-- the first place from s on, k places looked at -/
def nextEnd (text : Array Nat) : Nat → Nat → Option Nat
  | 0, _ => none
  | k + 1, s => if endAt text s = true then some s else nextEnd text k (s + 1)

theorem admitted3 (text : Array Nat) (m : M) (h1 : m.code = code3) (h2 : m.text = text) (h3 : m.lim = text.size) : ∀ (k s : Nat) (seen : Seen), s + k = text.size →
    ∃ seen', M.admitted m (k + 1) s seen = .ok (nextEnd text k s, seen') := by
  intro k
  induction k with
  | zero =>
    intro s seen h
    rw [M.admitted, if_pos (by rw [h3]; omega)]
    exact ⟨_, rfl⟩
  | succ k ih =>
    intro s seen h
    rw [M.admitted, if_neg (by rw [h3]; omega), h1, h2]
    obtain ⟨seen', e⟩ := inSet3 (text.getD s 0) seen
    rw [e]
    rw [nextEnd]
    cases hc : endAt text s with
    | true =>
      unfold endAt at hc
      rw [hc]
      exact ⟨_, rfl⟩
    | false =>
      unfold endAt at hc
      rw [hc]
      obtain ⟨seen'', e'⟩ := ih (s + 1) seen' (by omega)
      exact ⟨seen'', e'⟩

theorem start3 (text : Array Nat) (s : Nat) (h : s < text.size) :
    match nextEnd text (text.size - s) s with
    | some p => ∃ seen, forSearch code3 text 0 s text.size false = G text p [fr0 p] 1 true seen 10 p p none
    | none => ∃ m, M.runFor 1 (forSearch code3 text 0 s text.size false) = m ∧ Ends m none := by
  have h1 : (header code3).1 = 1 := rfl
  have hc : (decide (s > text.size) || decide (text.size - s < 1)) = false := by simp; omega
  obtain ⟨m₀, e₀, hm⟩ : ∃ m₀ : M, m₀ = { code := code3, text, lim := text.size, start := s, lastStart := text.size, pc := 10, pos := s, handed := s, marks := #[], seen := ({} : Seen).add 14 } ∧ forSearch code3 text 0 s text.size false = m₀.attemptFrom s true := by
    refine ⟨_, rfl, ?_⟩
    unfold forSearch
    rw [h1]
    simp only [hc]
    rfl
  have hk : text.size + 1 - s = (text.size - s) + 1 := by omega
  have ha := admitted3 text m₀ (by rw [e₀]) (by rw [e₀]) (by rw [e₀]) (text.size - s) s m₀.seen (by omega)
  obtain ⟨seen', ha⟩ := ha
  have hf : m₀.hasFirstSet = true := by rw [e₀]; rfl
  have hl : m₀.lim = text.size := by rw [e₀]
  have hfr : forSearch code3 text 0 s text.size false = match nextEnd text (text.size - s) s with
      | some p => { m₀ with mustAdvance := false, seen := seen' }.attemptAt p true
      | none => { m₀ with seen := seen' }.say false := by
    rw [hm]
    unfold M.attemptFrom
    rw [hf, hl, hk, ha]
    cases nextEnd text (text.size - s) s <;> rfl
  rw [hfr]
  cases nextEnd text (text.size - s) s with
  | some p =>
    refine ⟨seen', ?_⟩
    rw [e₀]
    rfl
  | none =>
    refine ⟨_, rfl, ?_⟩
    show Ends (M.runFor 1 (M.say { m₀ with seen := seen' } false)) none
    rw [runFor_succ, step_last (yes := false) (by rw [e₀]; rfl) (by rw [e₀]; rfl) (by rw [e₀]; rfl)]
    rfl

theorem start3_none (text : Array Nat) : ∃ m, M.runFor 1 (forSearch code3 text 0 text.size text.size false) = m ∧ Ends m none := by
  have hc : (decide (text.size > text.size) || decide (text.size - text.size < 1)) = true := by simp
  obtain ⟨m, e, h1, h2, h3⟩ : ∃ m, forSearch code3 text 0 text.size text.size false = m ∧ m.answer = some false ∧ m.frames = [] ∧ m.outcome = none := by
    refine ⟨_, rfl, ?_⟩
    unfold forSearch
    have h1 : (header code3).1 = 1 := rfl
    rw [h1]
    simp only [hc]
    exact ⟨rfl, rfl, rfl⟩
  rw [e, runFor_succ, step_last h3 h1 h2]
  exact ⟨_, rfl, rfl⟩

section
variable (text : Array Nat) (s : Nat) (frs : List Sre.Frame) (wt : Nat) (om : Bool) (seen : Seen) (pos hd : Nat)

theorem lit3 (pc c : Nat) (hpc : pc = 12 ∧ c = 13 ∨ pc = 14 ∧ c = 10 ∨ pc = 19 ∧ c = 10 ∨ pc = 24 ∧ c = 13 ∨ pc = 29 ∧ c = 10) (b : Bool) (h : (decide (pos < text.size) && text.getD pos 0 == c) = b) :
    (G text s frs wt om seen pc pos hd none).step = if b = true then G text s frs wt om (seen.add 16) (pc + 2) (pos + 1) hd none else G text s frs wt om (seen.add 16) pc pos hd (some false) := by
  have hlt : pc < 36 := by omega
  rw [step_exec rfl rfl (by show pc < 36; exact hlt)]
  have e : M.exec (G text s frs wt om seen pc pos hd none) = (if pos ≥ text.size then G text s frs wt om (seen.add 16) pc pos hd (some false) else
      match (Except.ok (text.getD pos 0 == c, seen.add 16) : Except String (Bool × Seen)) with
      | .error why => M.stick (G text s frs wt om (seen.add 16) pc pos hd none) why
      | .ok (false, seen) => G text s frs wt om seen pc pos hd (some false)
      | .ok (true, seen) => G text s frs wt om seen (pc + 2) (pos + 1) hd none) := by
    rcases hpc with ⟨rfl, rfl⟩ | ⟨rfl, rfl⟩ | ⟨rfl, rfl⟩ | ⟨rfl, rfl⟩ | ⟨rfl, rfl⟩ <;> rfl
  rw [e]
  by_cases hs : pos ≥ text.size
  · rw [if_pos hs]
    have hd : decide (pos < text.size) = false := decide_eq_false (Nat.not_lt.mpr hs)
    rw [hd, Bool.false_and] at h
    rw [← h]; rfl
  · rw [if_neg hs]
    have hd : decide (pos < text.size) = true := decide_eq_true (Nat.lt_of_not_le hs)
    rw [hd, Bool.true_and] at h
    rw [h]
    cases b <;> rfl

theorem jump3 (pc : Nat) (hpc : pc = 16 ∨ pc = 21 ∨ pc = 32) : (G text s frs wt om seen pc pos hd none).step = G text s frs wt om (seen.add 15) 35 pos hd none := by
  rw [step_exec rfl rfl (by show pc < 36; omega)]
  rcases hpc with rfl | rfl | rfl <;> rfl
theorem succ3 (pc : Nat) (hpc : pc = 35 ∨ pc = 31) : (G text s frs wt om seen pc pos hd none).step = G text s frs wt om (seen.add 1) pc pos pos (some true) := by
  rw [step_exec rfl rfl (by show pc < 36; omega)]
  have e : M.exec (G text s frs wt om seen pc pos hd none) = (if (om && ((false && (pos != text.size)) || (false && (pos == s)))) = true then G text s frs wt om (seen.add 1) pc pos hd (some false)
      else G text s frs wt om (seen.add 1) pc pos pos (some true)) := by rcases hpc with rfl | rfl <;> rfl
  rw [e, if_neg (by simp)]
theorem branch3 (hw : wt ≤ 4) : (G text s frs wt true seen 10 pos hd none).step = G text s (frB pos 11 :: frs) (wt + 1) true (seen.add 7) 12 pos pos none := by
  rw [step_exec rfl rfl (by show (10 : Nat) < 36; decide)]
  have e : M.exec (G text s frs wt true seen 10 pos hd none) = (if wt + 1 + 0 > 16777216 then M.stick (G text s frs wt true (seen.add 7) 10 pos hd none) "frames:memory" else G text s (frB pos 11 :: frs) (wt + 1) true (seen.add 7) 12 pos pos none) := rfl
  rw [e, if_neg (by omega)]
theorem alt3 (p alt alt' pc : Nat) (ha : alt = 11 ∧ alt' = 18 ∨ alt = 18 ∧ alt' = 23) (hw : wt ≤ 4) : (G text s (frB p alt :: frs) (wt + 1) om seen pc pos hd (some false)).step = G text s (frB p alt' :: frs) (wt + 1) true seen (alt' + 1) p p none := by
  rw [step_back (f := frB p alt) (yes := false) (rest := frs) rfl rfl rfl]
  have e : ∀ x : M, x = G text s frs (wt + 1 - (1 + 0)) true seen alt p hd none → M.resume x (frB p alt) false = (if (wt + 1 - (1 + 0)) + 1 + 0 > 16777216 then M.stick (G text s frs (wt + 1 - (1 + 0)) true seen alt p hd none) "frames:memory" else G text s (frB p alt' :: frs) ((wt + 1 - (1 + 0)) + 1) true seen (alt' + 1) p p none) := by
    rintro x rfl
    rcases ha with ⟨rfl, rfl⟩ | ⟨rfl, rfl⟩ <;> rfl
  refine (e _ rfl).trans ?_
  rw [if_neg (by omega)]
  rfl
theorem yesB3 (p alt pc : Nat) : (G text s (frB p alt :: frs) (wt + 1) om seen pc pos hd (some true)).step = G text s frs wt true seen alt p hd (some true) := by
  rw [step_back (f := frB p alt) (yes := true) (rest := frs) rfl rfl rfl]
  rfl
theorem yes03 (pc : Nat) : ∃ m, M.runFor 2 (G text s [fr0 s] 1 om seen pc pos hd (some true)) = m ∧ Ends m (some (s, hd)) := by
  rw [runFor_succ, step_back (f := fr0 s) (yes := true) (rest := []) rfl rfl rfl]
  have e2 : ∀ m : M, M.resume m (fr0 s) true = m.say true := fun _ => rfl
  rw [e2, runFor_succ, step_last (yes := true) rfl rfl rfl]
  exact ⟨_, rfl, rfl, rfl, rfl⟩
theorem not3 (hw : wt ≤ 4) : (G text s frs wt true seen 26 pos hd none).step = G text s (frL pos :: frs) (wt + 1) false (seen.add 5) 29 pos pos none := by
  rw [step_exec rfl rfl (by show (26 : Nat) < 36; decide)]
  have e : M.exec (G text s frs wt true seen 26 pos hd none) = (if pos < 0 then G text s frs wt true (seen.add 5) 32 pos hd none else if wt + 1 + 0 > 16777216 then M.stick (G text s frs wt true (seen.add 5) 26 pos hd none) "frames:memory" else G text s (frL pos :: frs) (wt + 1) false (seen.add 5) 29 pos pos none) := rfl
  rw [e, if_neg (by omega), if_neg (by omega)]
theorem noL3 (p pc : Nat) : (G text s (frL p :: frs) (wt + 1) om seen pc pos hd (some false)).step = G text s frs wt true seen 32 p hd none := by
  rw [step_back (f := frL p) (yes := false) (rest := frs) rfl rfl rfl]
  rfl
end

/-- what is found at p -/
def endLen (text : Array Nat) (p : Nat) : Nat := if (text.getD p 0 == 13 && (decide (p + 1 < text.size) && text.getD (p + 1) 0 == 10)) = true then 2 else 1

theorem run3 (text : Array Nat) (p : Nat) (seen : Seen) (hp : p < text.size) (h : endAt text p = true) :
    ∃ n m, n ≤ 20 ∧ M.runFor n (G text p [fr0 p] 1 true seen 10 p p none) = m ∧ Ends m (some (p, p + endLen text p)) := by
  have hlt : decide (p < text.size) = true := decide_eq_true hp
  cases h13 : text.getD p 0 == 13 with
  | true =>
    have hne : (text.getD p 0 == 10) = false := by
      have : text.getD p 0 = 13 := by simpa only [beq_iff_eq] using h13
      rw [this]; rfl
    cases h10 : (decide (p + 1 < text.size) && text.getD (p + 1) 0 == 10) with
    | true =>
      have hl : endLen text p = 2 := by unfold endLen; rw [h13, h10]; rfl
      obtain ⟨m, e, he⟩ := yes03 text p true (((((seen.add 7).add 16).add 16).add 15).add 1) p (p + 2) 11
      refine ⟨8, m, by decide, ?_, by rw [hl]; exact he⟩
      rw [runFor_succ, branch3 _ _ _ _ _ _ _ (by decide), runFor_succ, lit3 _ _ _ _ _ _ _ _ 12 13 (by decide) true (by rw [hlt, h13]; rfl), if_pos rfl,
        runFor_succ, lit3 _ _ _ _ _ _ _ _ 14 10 (by decide) true h10, if_pos rfl, runFor_succ, jump3 _ _ _ _ _ _ _ _ 16 (by decide), runFor_succ, succ3 _ _ _ _ _ _ _ _ 35 (by decide), runFor_succ, yesB3]
      exact e
    | false =>
      have hl : endLen text p = 1 := by unfold endLen; rw [h10, Bool.and_false]; rfl
      obtain ⟨m, e, he⟩ := yes03 text p true (((((((((seen.add 7).add 16).add 16).add 16).add 16).add 5).add 16).add 15).add 1) p (p + 1) 23
      refine ⟨15, m, by decide, ?_, by rw [hl]; exact he⟩
      rw [runFor_succ, branch3 _ _ _ _ _ _ _ (by decide), runFor_succ, lit3 _ _ _ _ _ _ _ _ 12 13 (by decide) true (by rw [hlt, h13]; rfl), if_pos rfl,
        runFor_succ, lit3 _ _ _ _ _ _ _ _ 14 10 (by decide) false h10, if_neg (by decide),
        runFor_succ, alt3 _ _ _ _ _ _ _ _ p 11 18 14 (by decide) (by decide), runFor_succ, lit3 _ _ _ _ _ _ _ _ 19 10 (by decide) false (by rw [hne, Bool.and_false]), if_neg (by decide),
        runFor_succ, alt3 _ _ _ _ _ _ _ _ p 18 23 19 (by decide) (by decide), runFor_succ, lit3 _ _ _ _ _ _ _ _ 24 13 (by decide) true (by rw [hlt, h13]; rfl), if_pos rfl,
        runFor_succ, not3 _ _ _ _ _ _ _ (by decide), runFor_succ, lit3 _ _ _ _ _ _ _ _ 29 10 (by decide) false h10, if_neg (by decide), runFor_succ, noL3,
        runFor_succ, jump3 _ _ _ _ _ _ _ _ 32 (by decide), runFor_succ, succ3 _ _ _ _ _ _ _ _ 35 (by decide), runFor_succ, yesB3]
      exact e
  | false =>
    have h10 : (text.getD p 0 == 10) = true := by unfold endAt at h; rw [h13, Bool.or_false] at h; exact h
    have hl : endLen text p = 1 := by unfold endLen; rw [h13]; rfl
    obtain ⟨m, e, he⟩ := yes03 text p true (((((seen.add 7).add 16).add 16).add 15).add 1) p (p + 1) 18
    refine ⟨9, m, by decide, ?_, by rw [hl]; exact he⟩
    rw [runFor_succ, branch3 _ _ _ _ _ _ _ (by decide), runFor_succ, lit3 _ _ _ _ _ _ _ _ 12 13 (by decide) false (by rw [h13, Bool.and_false]), if_neg (by decide),
      runFor_succ, alt3 _ _ _ _ _ _ _ _ p 11 18 12 (by decide) (by decide), runFor_succ, lit3 _ _ _ _ _ _ _ _ 19 10 (by decide) true (by rw [hlt, h10]; rfl), if_pos rfl,
      runFor_succ, jump3 _ _ _ _ _ _ _ _ 21 (by decide), runFor_succ, succ3 _ _ _ _ _ _ _ _ 35 (by decide), runFor_succ, yesB3]
    exact e

theorem nextEnd_some (text : Array Nat) : ∀ (k s p : Nat), nextEnd text k s = some p → s ≤ p ∧ p < s + k ∧ endAt text p = true := by
  intro k
  induction k with
  | zero => intro s p h; cases h
  | succ k ih =>
    intro s p h
    rw [nextEnd] at h
    split at h
    · rename_i he
      cases h
      exact ⟨Nat.le_refl _, by omega, he⟩
    · obtain ⟨h1, h2, h3⟩ := ih _ _ h
      exact ⟨by omega, by omega, h3⟩

theorem search3 (text : Array Nat) (s : Nat) (h : s ≤ text.size) :
    ∃ n m, n ≤ 20 ∧ M.runFor n (forSearch code3 text 0 s text.size false) = m ∧ Ends m ((nextEnd text (text.size - s) s).map fun p => (p, p + endLen text p)) := by
  by_cases hs : s < text.size
  · have := start3 text s hs
    cases hn : nextEnd text (text.size - s) s with
    | none =>
      rw [hn] at this
      obtain ⟨m, h1, h2⟩ := this
      exact ⟨1, m, by decide, h1, h2⟩
    | some p =>
      rw [hn] at this
      obtain ⟨seen, e⟩ := this
      obtain ⟨h1, h2, h3⟩ := nextEnd_some text _ _ _ hn
      rw [e]
      exact run3 text p seen (by omega) h3
  · have : s = text.size := by omega
    subst this
    obtain ⟨m, h1, h2⟩ := start3_none text
    rw [Nat.sub_self]
    exact ⟨1, m, by decide, h1, h2⟩

end Mine

end

section
namespace Mine
open PySem PySem.W PySem.Calls PyProof.Rows PySem.Builtin PySem.Builtin.Re

theorem done_eq {a b : Nat} {m : Sre.M} (ha : (Sre.M.runFor a m).outcome.isSome = true) (hb : (Sre.M.runFor b m).outcome.isSome = true) : Sre.M.runFor a m = Sre.M.runFor b m := by
  rcases Nat.le_total a b with h | h
  · obtain ⟨c, rfl⟩ := Nat.le.dest h
    rw [runFor_add, runFor_done c _ ha]
  · obtain ⟨c, rfl⟩ := Nat.le.dest h
    rw [runFor_add, runFor_done c _ hb]
theorem Ends.some {m : Sre.M} {r} (h : Ends m r) : m.outcome.isSome = true := by
  unfold Ends at h
  split at h
  · rw [h.1]; rfl
  · rw [h]; rfl

section
variable {M : Model} {A : Around} {E : Value → Shared → Prop} {s : Shared}

theorem wp_reDrive {Q : Sre.M → Shared → Prop} : ∀ (k turns n : Nat) (m : Sre.M), k < turns → n ≤ 4 * (k + 1) → (Sre.M.runFor n m).outcome.isSome = true → Q (Sre.M.runFor n m) s →
    wpAny M A (reDrive turns m) Q E s := by
  intro k
  induction k with
  | zero =>
    intro turns n m ht hn ho hq
    obtain ⟨t, rfl⟩ : ∃ t, turns = t + 1 := ⟨turns - 1, by omega⟩
    have h4 : Sre.M.runFor 4 m = Sre.M.runFor n m := by
      obtain ⟨c, hc⟩ := Nat.le.dest hn
      have : Sre.M.runFor 4 m = Sre.M.runFor c (Sre.M.runFor n m) := by rw [← runFor_add, hc]
      rw [this, runFor_done c _ ho]
    rw [reDrive]
    show wpAny M A (if (Sre.M.runFor 4 m).outcome.isSome = true then pure (Sre.M.runFor 4 m) else _) Q E s
    rw [h4, if_pos ho]
    exact wpAny_pure hq
  | succ k ih =>
    intro turns n m ht hn ho hq
    obtain ⟨t, rfl⟩ : ∃ t, turns = t + 1 := ⟨turns - 1, by omega⟩
    rw [reDrive]
    show wpAny M A (if (Sre.M.runFor 4 m).outcome.isSome = true then _ else _) Q E s
    by_cases h4 : (Sre.M.runFor 4 m).outcome.isSome = true
    · rw [if_pos h4]
      rw [← done_eq h4 ho] at hq
      exact wpAny_pure hq
    · rw [if_neg h4]
      have hn4 : 4 ≤ n := by
        rcases Nat.lt_or_ge n 4 with h | h
        · exfalso
          obtain ⟨c, hc⟩ := Nat.le.dest (Nat.le_of_lt h)
          apply h4
          rw [← hc, runFor_add, runFor_done c _ ho]
          exact ho
        · exact h
      have e : Sre.M.runFor n m = Sre.M.runFor (n - 4) (Sre.M.runFor 4 m) := by rw [← runFor_add]; congr 1; omega
      refine wpAny_bind (wpAny_rule ?_)
      exact ih t (n - 4) (Sre.M.runFor 4 m) (by omega) (by omega) (by rw [← e]; exact ho) (by rw [← e]; exact hq)

theorem wp_reRun {Q : Option Sre.M → Shared → Prop} {n : Nat} {m m' : Sre.M} {r : Option (Nat × Nat)} (hn : n ≤ 2 ^ 40) (e : Sre.M.runFor n m = m') (he : Ends m' r)
    (hq : Q (r.map fun _ => m') s) : wpAny M A (reRunToEnd m) Q E s := by
  unfold reRunToEnd
  subst e
  refine wpAny_bind (wp_reDrive (2 ^ 40) (2 ^ 64) n m (by decide) (by omega) he.some ?_)
  generalize Sre.M.runFor n m = m' at *
  refine wpAny_bind ?_
  refine wpAny_forIn_list _ (fun _ _ s' => s' = s) _ ?_ ?_ _ _ rfl
  · intro x rest b s' h
    subst h
    split
    · exact wpAny_bind (wpAny_rule (wpAny_pure rfl))
    · exact wpAny_pure rfl
  · intro b s' h
    subst h
    unfold Ends at he
    cases r with
    | some p =>
      rw [he.1]
      exact wpAny_pure hq
    | none =>
      rw [he]
      exact wpAny_pure hq
end

/-- a piece: a str or bytes -/
def pv (kind : Nat) (p : Array Nat) (t : Tok) : Value := if kind = 0 then .str ⟨p⟩ t else .bytes (p.map (·.toUInt8)) t

structure PatAt (h : Heap) (a : Addr) (code : Array Nat) (kind : Nat) : Prop where
  has : ∃ (o oc : Obj) (fs cs : Array Value) (ac : Addr) (n : Nat), h.get? a = some o ∧ o.cls = .type "re.Pattern" ∧ o.dict = none ∧ o.data = .fields fs ∧ fs.getD 5 .none = .ref ac ∧ reRawNat (fs.getD 6 .none) = kind ∧
    reRawNat (fs.getD 2 .none) = 0 ∧ h.get? ac = some oc ∧ oc.data = .seq cs n ∧ (cs.map reRawOf).map (·.toNat) = code
theorem PatAt.keeps {h h' : Heap} {a : Addr} {code : Array Nat} {kind : Nat} (x : PatAt h a code kind) (hk : ∀ b o, h.get? b = some o → h'.get? b = some o) : PatAt h' a code kind := by
  obtain ⟨o, oc, fs, cs, ac, n, h1, h2, h3, h4, h5, h6, h7, h8, h9⟩ := x.has
  exact ⟨o, oc, fs, cs, ac, n, hk _ _ h1, h2, h3, h4, h5, h6, h7, hk _ _ h8, h9⟩
theorem PatAt.but {h h' : Heap} {a D : Addr} {code : Array Nat} {kind : Nat} (x : PatAt h a code kind) (hk : ∀ b o, b ≠ D → h.get? b = some o → h'.get? b = some o) (h₀ : Heap) (x₀ : PatAt h₀ a code kind) (hD : h₀.get? D = none) (h0 : ∀ b o, h₀.get? b = some o → h.get? b = some o) : PatAt h' a code kind :=
  x₀.keeps fun b o e => hk b o (fun q => by rw [q, hD] at e; cases e) (h0 b o e)

/-- the text of a subject -/
structure Subj (sv : Value) (text : Array Nat) (kind : Nat) : Prop where
  text : reTextOf sv = pure (text, kind)
  quiet : reNoCollectionInside sv kind = pure ()

theorem subj_str (x : Str) (t : Tok) : Subj (.str x t) x.cps 0 := ⟨rfl, rfl⟩
theorem subj_bytes (b : Array UInt8) (t : Tok) : Subj (.bytes b t) (b.map (·.toNat)) 1 := by
  refine ⟨?_, ?_⟩
  · unfold reTextOf
    have e : asStr? (.bytes b t) = pure none := rfl
    rw [e, W.KBy.quiet_eq]
    rfl
  · unfold reNoCollectionInside
    rw [W.KBy.isInstance_eq]
    rfl

section
variable {M : Model} {A : Around} {E : Value → Shared → Prop} {s : Shared}
theorem wp_reSlice {text : Array Nat} {kind b e : Nat} {Q : Value → Shared → Prop} (hz : text.size ≤ 1000000) (h : Q (pv kind (text.extract b e) s.toks) { s with toks := s.toks + 1 }) : wpAny M A (reSlice text kind b e) Q E s := by
  have hz' : (text.extract b e).size ≤ sizeLine := by rw [Array.size_extract, sizeLine_eq]; omega
  unfold reSlice pv at *
  by_cases hk : kind = 0
  · rw [if_pos hk] at h
    rw [if_pos (by simp [hk])]
    exact wpAny_mkStr h hz'
  · rw [if_neg hk] at h
    rw [if_neg (by simp [hk])]
    exact wpAny_mkBytes h (by rw [Array.size_map]; exact hz')

theorem wp_whole {a : Addr} {code text : Array Nat} {kind : Nat} {sv : Value} {Q : ReTarget → Shared → Prop} (hP : PatAt s.heap a code kind) (hS : Subj sv text kind)
    (h : Q { pattern := .ref a, string := sv, code := code, text := text, kind := kind, groups := 0, pos := 0, lim := text.size } s) : wpAny M A (reWholeTarget (.ref a) sv) Q E s := by
  obtain ⟨o, oc, fs, cs, ac, n, h1, _, _, h4, h5, h6, h7, h8, h9, h10⟩ := hP.has
  unfold reWholeTarget
  refine wpAny_bind (wpAny_fieldsOf h1 h4 ?_)
  refine wpAny_bind (wpAny_of_eq hS.text ?_)
  dsimp only
  rw [h6]
  have c1 : (kind == 0 && kind == 1) = false := by
    by_cases h : kind = 0
    · subst h; rfl
    · simp [h]
  have c2 : (kind == 1 && kind == 0) = false := by rw [Bool.and_comm]; exact c1
  rw [c1, c2, if_neg (by decide), if_neg (by decide)]
  refine wpAny_bind (wpAny_of_eq hS.quiet ?_)
  rw [h5, h7]
  refine wpAny_bind (m := reRawItems (.ref ac)) ?_
  unfold reRawItems seqItems?
  refine wpAny_bind (wpAny_bind (wpAny_load h8 ?_))
  rw [h9]
  refine wpAny_pure (wpAny_pure (wpAny_pure ?_))
  show Q { pattern := .ref a, string := sv, code := (cs.map reRawOf).map (·.toNat), text := text, kind := kind, groups := 0, pos := 0, lim := text.size } s
  rw [h10]; exact h
end

end Mine

end

section
namespace Mine
open PySem PySem.W PySem.Calls PyProof.Rows PySem.Builtin PySem.Builtin.Re
set_option maxRecDepth 100000

theorem entry_loop : entryFor table "re.Pattern.sub.loop" = some Builtin.«re.Pattern.sub.loop» := entryFor_of_tree (by kernel_rfl)
theorem plain_loop : plainId "re.Pattern.sub.loop" = true := by decide +kernel

/-- pieces put together -/
def cat (l : List (Array Nat × Tok)) : List Nat := l.flatMap fun p => p.1.toList
theorem cat_snoc (l : List (Array Nat × Tok)) (p : Array Nat) (t : Tok) : cat (l ++ [(p, t)]) = cat l ++ p.toList := by simp [cat]

theorem len_ext (text : Array Nat) (i j : Nat) : (text.extract i j).toList.length ≤ j - i := by
  have : (text.extract i j).toList.length = (text.extract i j).size := rfl
  rw [this, Array.size_extract]; omega

/-- the pieces' list -/
def ListAt (h : Heap) (D : Addr) (vs : List Value) : Prop := ∃ n, h.get? D = some { cls := .type "list", data := .seq vs.toArray n }
theorem ListAt.isList {h : Heap} {D : Addr} {vs : List Value} (x : ListAt h D vs) : h.IsList D vs.toArray := by
  obtain ⟨n, e⟩ := x
  exact ⟨_, e, rfl, n, rfl⟩
def pvs (kind : Nat) (l : List (Array Nat × Tok)) : List Value := l.map fun p => pv kind p.1 p.2

section
variable {M : Model} {A : Around} {E : Value → Shared → Prop} {s : Shared}
theorem wp_push {D : Addr} {vs : List Value} {v : Value} {Q : Unit → Shared → Prop} (hl : ListAt s.heap D vs) (hz : vs.length ≤ 1000000)
    (h : ∀ h', ListAt h' D (vs ++ [v]) → (∀ b o, b ≠ D → s.heap.get? b = some o → h'.get? b = some o) → Q () { s with heap := h' }) : wpAny M A (updateSeq D (·.push v)) Q E s := by
  obtain ⟨n, e⟩ := hl
  refine wpAny_updateSeq (f := fun xs => xs.push v) e rfl (h _ ⟨n + 1, ?_⟩ fun b o hb eb => ?_) (by rw [List.size_toArray, sizeLine_eq]; omega) (by rw [Array.size_push, List.size_toArray, sizeLine_eq]; omega)
  · rw [Heap.get?_update_self _ e rfl]
    simp [Obj.mapSeq]
  · rw [Heap.get?_update_other _ _ (Ne.symm hb)]; exact eb
end

/-- joining pieces of a kind -/
def JoinsOk (prog : Program) (w : World) (kind : Nat) : Prop := ∀ (A : Around) (E : Value → Shared → Prop) (s : Shared) (Q : Value → Shared → Prop) (D : Addr) (l : List (Array Nat × Tok)) (t : Tok), s.heap.IsList D (pvs kind l).toArray → l ≠ [] → (cat l).length ≤ 1000000 → l.length ≤ 1000000 →
  (∀ y t' k, y.toList = cat l → Q (pv kind y t') { s with toks := k }) → wpAny (model prog w) A (call (.builtin (if (kind == 0) = true then "str.join" else "bytes.join")) [pv kind #[] t, .ref D]) Q E s

theorem pv_ne_none (kind : Nat) (p : Array Nat) (t : Tok) : (pv kind p t != .none) = true := by
  unfold pv
  split <;> rfl

theorem subLoop {prog : Program} {w : World} {A : Around} {R : Result → Shared → Prop} {a D : Addr} {code text repl : Array Nat} {kind : Nat} {sv : Value} {tr : Tok} {h₀ : Heap}
    (hJ : JoinsOk prog w kind) (hP : PatAt h₀ a code kind) (hD : h₀.get? D = none) (hS : Subj sv text kind) (hL : reLiteralCannotBeTurned (pv kind repl tr) = pure ())
    (nxt : Nat → Option (Nat × Nat)) (hN : ∀ i, i ≤ text.size → ∃ n m, n ≤ 2 ^ 40 ∧ Sre.M.runFor n (Sre.forSearch code text 0 i text.size false) = m ∧ Ends m (nxt i))
    (hnx : ∀ i b e, nxt i = some (b, e) → i ≤ b ∧ b < e ∧ e ≤ text.size)
    (outF : Nat → List Nat) (h1 : ∀ i b e, nxt i = some (b, e) → outF i = (text.extract i b).toList ++ repl.toList ++ outF e) (h2 : ∀ i, nxt i = none → outF i = (text.extract i text.size).toList)
    (hlen : text.size ≤ 10000) (hrl : repl.size ≤ 10) (hpos : 0 < text.size) :
    ∀ (k i : Nat) (n : Int) (l : List (Array Nat × Tok)) (s : Shared), text.size - i = k → i ≤ text.size → (i = 0 ∨ l ≠ []) → l.length ≤ 2 * i → (cat l).length + 12 * (text.size - i) ≤ 12 * text.size → ListAt s.heap D (pvs kind l) →
      (∀ b o, h₀.get? b = some o → s.heap.get? b = some o) →
      (∀ y t h' k, y.toList = cat l ++ outF i → (∀ b o, h₀.get? b = some o → h'.get? b = some o) → R (.ok (.ret (pv kind y t))) { s with heap := h', toks := k }) →
      codeAny (model prog w) A (.builtin "re.Pattern.sub.loop" ⟨[.ref a, sv, pv kind repl tr, rawInt 0, rawInt 0, rawInt n, rawInt i, rawInt i, .bool false, .ref D, .bool false], []⟩) R s := by
  intro k
  induction k using Nat.strongRecOn with
  | ind k ih =>
    intro i n l s hk hi hl hll hcl hA hkeep hR
    refine codeAny_builtin entry_loop ?_
    rw [Around.under_plainId plain_loop _]
    unfold Builtin.«re.Pattern.sub.loop»
    show wpAny _ _ (reWholeTarget (.ref a) sv >>= fun t => _) _ _ _
    refine wpAny_bind (wp_whole (hP.keeps hkeep) hS ?_)
    show wpAny _ _ (reLiteralCannotBeTurned (pv kind repl tr) >>= fun _ => _) _ _ _
    refine wpAny_bind (wpAny_of_eq hL ?_)
    show wpAny _ _ ((reNextFound _ i false) >>= fun m? => _) _ _ _
    unfold reNextFound
    obtain ⟨nn, m, hn, hm, he⟩ := hN i hi
    refine wpAny_bind (wp_reRun hn hm he ?_)
    cases hx : nxt i with
    | none =>
      rw [hx] at he
      -- the end: joiner, join
      have fin : ∀ (l' : List (Array Nat × Tok)) (s' : Shared), s'.gens = s.gens → s'.drawn = s.drawn → s'.os = s.os → l' ≠ [] → (cat l').length ≤ 1000000 → l'.length ≤ 1000000 → ListAt s'.heap D (pvs kind l') → cat l' = cat l ++ outF i → (∀ b o, h₀.get? b = some o → s'.heap.get? b = some o) →
          wpAny (model prog w) A.in1 (do
            let joiner ← reSlice text kind 0 0
            let __do_lift ← seqItems? (Value.ref D)
            if (__do_lift.getD #[]).isEmpty = true then do
              let text ← pure joiner
              if false = true then do
                let __do_lift ← holding [text] do
                    let __do_lift ← mkInt n
                    newTuple [text, __do_lift]
                ret __do_lift
              else ret text
            else do
              let text ← call (Value.builtin (if (kind == 0) = true then "str.join" else "bytes.join")) [joiner, Value.ref D]
              if false = true then do
                let __do_lift ← holding [text] do
                    let __do_lift ← mkInt n
                    newTuple [text, __do_lift]
                ret __do_lift
              else ret text)
            (fun fin s' => match fin with | .done f => R (.ok f) s' | .again c' => c'.quiet = true ∧ codeAny (model prog w) A c' R s') (fun e s' => R (.error e) s') s' := by
        intro l' s' e1 e2 e3 hne hz1 hz2 hA' hcat hk'
        refine wpAny_bind (wp_reSlice (by omega) ?_)
        have he0 : text.extract 0 0 = #[] := by simp
        rw [he0]
        obtain ⟨nn, hD'⟩ := hA'
        refine wpAny_bind (m := seqItems? (.ref D)) ?_
        unfold seqItems?
        refine wpAny_bind (wpAny_load (o := { cls := .type "list", data := .seq (pvs kind l').toArray nn }) hD' (wpAny_pure ?_))
        have hne' : ((some (pvs kind l').toArray).getD #[]).isEmpty = false := by
          cases l' with
          | nil => exact absurd rfl hne
          | cons p r => rfl
        rw [hne', if_neg (by decide)]
        refine wpAny_bind (hJ _ _ _ _ D l' _ ⟨_, hD', rfl, nn, rfl⟩ hne hz1 hz2 fun y t' k' hy => ?_)
        rw [if_neg (by decide)]
        refine wpAny_pure ?_
        have := hR y t' s'.heap k' (hy.trans hcat) hk'
        obtain ⟨a1, a2, a3, a4, a5⟩ := s'
        subst e1 e2 e3
        exact this
      have hlen' : ∀ j, (text.extract i j).size ≤ text.size := by intro j; rw [Array.size_extract]; omega
      show wpAny _ _ (if i < text.size then _ else _) _ _ _
      by_cases hlt : i < text.size
      · rw [if_pos hlt]
        refine wpAny_bind (wp_reSlice (by show text.size ≤ _; omega) (wpAny_bind (wp_push hA (by simp only [pvs, List.length_map]; omega) fun h' hA' hk' => ?_)))
        refine fin (l ++ [(text.extract i text.size, s.toks)]) { s with heap := h', toks := s.toks + 1 } rfl rfl rfl (by simp) ?_ (by rw [List.length_append, List.length_singleton]; omega) (by simpa [pvs] using hA') ?_ ?_
        · have := len_ext text i text.size
          rw [cat_snoc, List.length_append]; omega
        · rw [cat_snoc, h2 i hx]
        · intro b o e
          exact hk' b o (fun q => by rw [q, hD] at e; cases e) (hkeep b o e)
      · rw [if_neg hlt]
        have hie : i = text.size := by omega
        have hne : l ≠ [] := by
          rcases hl with h | h
          · omega
          · exact h
        refine fin l s rfl rfl rfl hne (by omega) (by omega) hA ?_ hkeep
        rw [h2 i hx, hie]
        simp
    | some be =>
      obtain ⟨b, e⟩ := be
      rw [hx] at he
      obtain ⟨_, hb, hh⟩ := he
      obtain ⟨g1, g2, g3⟩ := hnx i b e hx
      have turn : ∀ (l' : List (Array Nat × Tok)) (s' : Shared), s'.gens = s.gens → s'.drawn = s.drawn → s'.os = s.os → l'.length ≤ 2 * i + 1 → (cat l').length + 12 * (text.size - b) ≤ 12 * text.size → ListAt s'.heap D (pvs kind l') → cat l' ++ repl.toList ++ outF e = cat l ++ outF i → (∀ b o, h₀.get? b = some o → s'.heap.get? b = some o) →
          wpAny (model prog w) A.in1 (do
            let item ← pure (pv kind repl tr)
            if (item != Value.none) = true then do
              let __r ← updateSeq D fun x => x.push item
              again (Code.builtin "re.Pattern.sub.loop" { pos := [Value.ref a, sv, pv kind repl tr, rawInt 0, rawInt 0, rawInt (n + 1), rawInt ↑m.handed, rawInt ↑m.handed, Value.bool (m.handed == m.start), Value.ref D, Value.bool false] })
            else again (Code.builtin "re.Pattern.sub.loop" { pos := [Value.ref a, sv, pv kind repl tr, rawInt 0, rawInt 0, rawInt (n + 1), rawInt ↑m.handed, rawInt ↑m.handed, Value.bool (m.handed == m.start), Value.ref D, Value.bool false] }))
            (fun fin s' => match fin with | .done f => R (.ok f) s' | .again c' => c'.quiet = true ∧ codeAny (model prog w) A c' R s') (fun e s' => R (.error e) s') s' := by
        intro l' s' e1 e2 e3 hz1 hz2 hA' hcat hk'
        refine wpAny_bind (wpAny_pure ?_)
        rw [if_pos (pv_ne_none _ _ _)]
        refine wpAny_bind (wp_push hA' (by simp only [pvs, List.length_map]; omega) fun h' hA₂ hk₂ => ?_)
        refine wpAny_pure ⟨plainId_quiet plain_loop _, ?_⟩
        have hms : (m.handed == m.start) = false := by rw [hb, hh]; simp; omega
        rw [hms, hh]
        refine ih (text.size - e) (by omega) e (n + 1) (l' ++ [(repl, tr)]) { s' with heap := h' } rfl g3 (.inr (by simp)) (by rw [List.length_append, List.length_singleton]; omega) ?_ (by simpa [pvs] using hA₂) ?_ ?_
        · have : repl.toList.length = repl.size := rfl
          rw [cat_snoc, List.length_append]; omega
        · intro b' o' e'
          exact hk₂ b' o' (fun q => by rw [q, hD] at e'; cases e') (hk' b' o' e')
        · intro y t h'' k' hy hk''
          have := hR y t h'' k' (by rw [hy, cat_snoc]; exact hcat) hk''
          obtain ⟨a1, a2, a3, a4, a5⟩ := s'
          subst e1 e2 e3
          exact this
      show wpAny _ _ (if i < m.start then _ else _) _ _ _
      by_cases hlt : i < m.start
      · rw [if_pos hlt]
        refine wpAny_bind (wp_reSlice (by show text.size ≤ _; omega) (wpAny_bind (wp_push hA (by simp only [pvs, List.length_map]; omega) fun h' hA' hk' => ?_)))
        have hA' : ListAt h' D (pvs kind (l ++ [(text.extract i b, s.toks)])) := by
          have e0 : pvs kind (l ++ [(text.extract i b, s.toks)]) = pvs kind l ++ [pv kind (text.extract i b) s.toks] := by simp [pvs]
          rw [e0, ← hb]; exact hA'
        refine turn (l ++ [(text.extract i b, s.toks)]) { s with heap := h', toks := s.toks + 1 } rfl rfl rfl (by rw [List.length_append, List.length_singleton]; omega) ?_ hA' ?_ ?_
        · have := len_ext text i b
          rw [cat_snoc, List.length_append]; omega
        · rw [cat_snoc, h1 i b e hx]; simp
        · intro b' o' e'
          exact hk' b' o' (fun q => by rw [q, hD] at e'; cases e') (hkeep b' o' e')
      · rw [if_neg hlt]
        have hie : i = b := by omega
        refine turn l s rfl rfl rfl (by omega) (by omega) hA ?_ hkeep
        rw [h1 i b e hx, hie]
        simp

end Mine

end

section
namespace Mine

theorem ext_list (text : Array Nat) (i p : Nat) : (text.extract i p).toList = (text.toList.drop i).take (p - i) := by
  rw [Array.toList_extract, List.extract_eq_take_drop]
theorem getD_list (text : Array Nat) (i : Nat) : text.getD i 0 = text.toList[i]?.getD 0 := by
  simp [Array.getD_eq_getD_getElem?]
theorem drop_at (text : Array Nat) (i : Nat) (h : i < text.size) : text.toList.drop i = text.getD i 0 :: text.toList.drop (i + 1) := by
  have h' : i < text.toList.length := by simpa using h
  rw [List.drop_eq_getElem_cons h', getD_list, List.getElem?_eq_getElem h']
  rfl

def outDot (text : Array Nat) (i : Nat) : List Nat := dots (i == 0 || text.getD (i - 1) 0 == 10) (text.toList.drop i)

theorem take_succ_drop (text : Array Nat) (i p : Nat) (h : i < text.size) (hp : i < p) : (text.toList.drop i).take (p - i) = text.getD i 0 :: (text.toList.drop (i + 1)).take (p - (i + 1)) := by
  rw [drop_at text i h]
  have : p - i = (p - (i + 1)) + 1 := by omega
  rw [this, List.take_succ_cons]

theorem nextDot_some (text : Array Nat) : ∀ (k i p : Nat), nextDot text k i = some p → i ≤ p ∧ p < i + k ∧ dotAt text p = true := by
  intro k
  induction k with
  | zero => intro s p h; cases h
  | succ k ih =>
    intro s p h
    rw [nextDot] at h
    split at h
    · rename_i he
      cases h
      exact ⟨Nat.le_refl _, by omega, he⟩
    · obtain ⟨h1, h2, h3⟩ := ih _ _ h
      exact ⟨by omega, by omega, h3⟩

theorem outDot_step (text : Array Nat) (i : Nat) (h : i < text.size) (hd : dotAt text i = false) : outDot text i = text.getD i 0 :: outDot text (i + 1) := by
  unfold outDot
  rw [drop_at text i h, dots_cons, if_neg]
  · rfl
  · rintro ⟨h1, h2⟩
    unfold dotAt at hd
    rw [h1, h2, decide_eq_true h] at hd
    cases hd
theorem outDot_hit (text : Array Nat) (i : Nat) (hd : dotAt text i = true) : outDot text i = 46 :: 46 :: outDot text (i + 1) := by
  unfold dotAt at hd
  rw [Bool.and_eq_true, Bool.and_eq_true] at hd
  obtain ⟨⟨h1, h2⟩, h3⟩ := hd
  have h3 : text.getD i 0 = 46 := by simpa only [beq_iff_eq] using h3
  unfold outDot
  rw [drop_at text i (of_decide_eq_true h1), h2, h3, dots_true_dot]
  rw [Nat.add_sub_cancel, h3]
  rfl

theorem outDot_some (text : Array Nat) : ∀ (k i p : Nat), i + k = text.size → nextDot text k i = some p → outDot text i = (text.extract i p).toList ++ [46, 46] ++ outDot text (p + 1) := by
  intro k
  induction k with
  | zero => intro i p _ h; cases h
  | succ k ih =>
    intro i p hs h
    rw [nextDot] at h
    split at h
    · rename_i he
      cases h
      rw [outDot_hit text i he, ext_list, Nat.sub_self]
      rfl
    · rename_i he
      have he : dotAt text i = false := by simpa using he
      obtain ⟨h1, h2, h3⟩ := nextDot_some text _ _ _ h
      rw [outDot_step text i (by omega) he, ih (i + 1) p (by omega) h, ext_list, ext_list, take_succ_drop text i p (by omega) (by omega)]
      rfl
theorem outDot_none (text : Array Nat) : ∀ (k i : Nat), i + k = text.size → nextDot text k i = none → outDot text i = (text.extract i text.size).toList := by
  intro k
  induction k with
  | zero =>
    intro i hs _
    have : i = text.size := by omega
    subst this
    unfold outDot
    rw [ext_list, List.drop_eq_nil_of_le (by simp)]
    simp [dots]
  | succ k ih =>
    intro i hs h
    rw [nextDot] at h
    split at h
    · cases h
    · rename_i he
      have he : dotAt text i = false := by simpa using he
      rw [outDot_step text i (by omega) he, ih (i + 1) (by omega) h, ext_list, ext_list, take_succ_drop text i text.size (by omega) (by omega)]

def outEnd (text : Array Nat) (i : Nat) : List Nat := fixE (text.toList.drop i)

theorem outEnd_step (text : Array Nat) (i : Nat) (h : i < text.size) (hd : endAt text i = false) : outEnd text i = text.getD i 0 :: outEnd text (i + 1) := by
  unfold outEnd endAt at *
  rw [Bool.or_eq_false_iff] at hd
  rw [drop_at text i h, fixE_other _ _ (by simpa using hd.1) (by simpa using hd.2)]
theorem outEnd_hit (text : Array Nat) (i : Nat) (h : i < text.size) (hd : endAt text i = true) : outEnd text i = 13 :: 10 :: outEnd text (i + endLen text i) := by
  unfold outEnd endAt at *
  rw [drop_at text i h]
  by_cases h13 : text.getD i 0 = 13
  · rw [h13]
    by_cases h10 : (decide (i + 1 < text.size) && text.getD (i + 1) 0 == 10) = true
    · have hl : endLen text i = 2 := by unfold endLen; rw [h13, h10]; rfl
      rw [Bool.and_eq_true] at h10
      have e : text.getD (i + 1) 0 = 10 := by simpa only [beq_iff_eq] using h10.2
      rw [hl, drop_at text (i + 1) (of_decide_eq_true h10.1), e, fixE_crlf]
    · have hl : endLen text i = 1 := by unfold endLen; rw [if_neg (by rw [Bool.and_eq_true]; exact fun q => h10 q.2)]
      rw [hl, fixE_cr]
      intro hh
      apply h10
      by_cases hlt : i + 1 < text.size
      · rw [drop_at text (i + 1) hlt] at hh
        have e : text.getD (i + 1) 0 = 10 := by simpa only [List.head?_cons, Option.some.injEq] using hh
        rw [decide_eq_true hlt, e]; rfl
      · rw [List.drop_eq_nil_of_le (by simp; omega)] at hh
        cases hh
  · have h10 : text.getD i 0 = 10 := by
      rw [Bool.or_eq_true] at hd
      rcases hd with h | h
      · simpa only [beq_iff_eq] using h
      · exact absurd (by simpa only [beq_iff_eq] using h) h13
    have hl : endLen text i = 1 := by
      unfold endLen
      rw [h10]
      rfl
    rw [hl, h10, fixE_lf]

theorem outEnd_some (text : Array Nat) : ∀ (k i p : Nat), i + k = text.size → nextEnd text k i = some p → outEnd text i = (text.extract i p).toList ++ [13, 10] ++ outEnd text (p + endLen text p) := by
  intro k
  induction k with
  | zero => intro i p _ h; cases h
  | succ k ih =>
    intro i p hs h
    rw [nextEnd] at h
    split at h
    · rename_i he
      cases h
      rw [outEnd_hit text i (by omega) he, ext_list, Nat.sub_self]
      rfl
    · rename_i he
      have he : endAt text i = false := by simpa using he
      obtain ⟨h1, h2, h3⟩ := nextEnd_some text _ _ _ h
      rw [outEnd_step text i (by omega) he, ih (i + 1) p (by omega) h, ext_list, ext_list, take_succ_drop text i p (by omega) (by omega)]
      rfl
theorem outEnd_none (text : Array Nat) : ∀ (k i : Nat), i + k = text.size → nextEnd text k i = none → outEnd text i = (text.extract i text.size).toList := by
  intro k
  induction k with
  | zero =>
    intro i hs _
    have : i = text.size := by omega
    subst this
    unfold outEnd
    rw [ext_list, List.drop_eq_nil_of_le (by simp)]
    simp [fixE]
  | succ k ih =>
    intro i hs h
    rw [nextEnd] at h
    split at h
    · cases h
    · rename_i he
      have he : endAt text i = false := by simpa using he
      rw [outEnd_step text i (by omega) he, ih (i + 1) (by omega) h, ext_list, ext_list, take_succ_drop text i text.size (by omega) (by omega)]

theorem endLen_le (text : Array Nat) (p : Nat) (h : p < text.size) : 0 < endLen text p ∧ p + endLen text p ≤ text.size := by
  by_cases hc : (text.getD p 0 == 13 && (decide (p + 1 < text.size) && text.getD (p + 1) 0 == 10)) = true
  · have e : endLen text p = 2 := by unfold endLen; rw [if_pos hc]
    rw [Bool.and_eq_true, Bool.and_eq_true] at hc
    have := of_decide_eq_true hc.2.1
    rw [e]; exact ⟨by decide, by omega⟩
  · have e : endLen text p = 1 := by unfold endLen; rw [if_neg hc]
    rw [e]; exact ⟨by decide, by omega⟩

end Mine

end

section
namespace Mine
open PySem PySem.W PySem.Calls PyProof.Rows PySem.Builtin PySem.Builtin.Re
set_option maxRecDepth 100000

theorem entry_sub : entryFor table "re.Pattern.sub" = some Builtin.«re.Pattern.sub» := entryFor_of_tree (by kernel_rfl)
theorem slot_sub : Slot "re.Pattern" "sub" "re.Pattern.sub" :=
  .of (owner := "re.Pattern") (n := "sub") (by rw [typeLookup_type, builtinLookup_eq_fast]; kernel_rfl) (by decide +kernel) (by decide +kernel) (by decide +kernel)
    (by first | exact .inl (by decide +kernel) | exact .inr (by decide +kernel)) (by rw [isSubtype_type]; kernel_rfl)
theorem type_sub : typeOf (.builtin "re.Pattern.sub") = pure (.type "method_descriptor") := by show builtinType _ = _; rw [builtinType_eq_fast]; kernel_rfl
theorem args_sub (a b c : Value) : argsOk "re.Pattern.sub" ⟨[a, b, c], []⟩ := by
  unfold argsOk; kernel_rfl
theorem call_none_str : typeLookup (.type "str") "__call__" = pure none := by rw [typeLookup_type, builtinLookup_eq_fast]; kernel_rfl
theorem call_none_bytes : typeLookup (.type "bytes") "__call__" = pure none := by rw [typeLookup_type, builtinLookup_eq_fast]; kernel_rfl
theorem named_sub (a b : Value) : reNamed "re.Pattern.sub" "sub" ["repl", "string", "count"] 2 [a, b] [] = pure [some a, some b, none] := by kernel_rfl

theorem glued_empty (l : List Str) : (Builtin.Str.glued ⟨#[]⟩ l).cps.toList = l.flatMap fun x => x.cps.toList := by
  unfold Builtin.Str.glued
  cases l with
  | nil => rfl
  | cons x r =>
    show (r.foldl (fun acc p => acc ++ #[] ++ p.cps) x.cps).toList = _
    have : ∀ (r : List Str) (acc : Array Nat), (r.foldl (fun acc p => acc ++ #[] ++ p.cps) acc).toList = acc.toList ++ r.flatMap fun x => x.cps.toList := by
      intro r
      induction r with
      | nil => intro acc; simp
      | cons y r ih => intro acc; rw [List.foldl_cons, ih]; simp
    rw [this]; simp

theorem foldl_len (l : List Str) (n : Nat) : l.foldl (fun acc (x : Str) => acc + x.length + 0) n = n + (l.flatMap fun x => x.cps.toList).length := by
  induction l generalizing n with
  | nil => simp
  | cons x r ih =>
    rw [List.foldl_cons, ih, List.flatMap_cons, List.length_append]
    have : x.cps.toList.length = x.length := rfl
    omega

theorem joins_str (prog : Program) (w : World) : JoinsOk prog w 0 := by
  intro A E s Q D l t hl hne hz hz' hq
  show wpAny (model prog w) A (call (.builtin "str.join") [.str ⟨#[]⟩ t, .ref D]) Q E s
  have e : pvs 0 l = strValues (l.map fun p => (⟨p.1⟩, p.2)) := by
    unfold pvs strValues
    rw [List.map_map]
    rfl
  rw [e] at hl
  have hc : ((l.map fun p => ((⟨p.1⟩ : Str), p.2)).map (·.1)).flatMap (fun x => x.cps.toList) = cat l := by
    unfold cat
    rw [List.map_map, List.flatMap_map]
    rfl
  refine SC.join hl rfl ?_ fun t' k => ?_
  · unfold JoinOk
    rw [Bool.not_eq_true', List.foldl_toArray]
    unfold Builtin.Str.tooLong
    have := foldl_len ((l.map fun p => ((⟨p.1⟩ : Str), p.2)).map (·.1)) 0
    rw [hc] at this
    have h0 : (⟨#[]⟩ : Str).length = 0 := rfl
    rw [h0, this, sizeLine_eq]
    exact decide_eq_false (by omega)
  · have := hq (Txt.join ⟨#[]⟩ ((l.map fun p => ((⟨p.1⟩ : Str), p.2)).map (·.1))).cps t' k (by unfold Txt.join; rw [glued_empty, hc])
    exact this

end Mine

end

section
namespace Mine
open PySem PySem.W PySem.Calls PyProof.Rows PySem.Builtin PySem.Builtin.Re
set_option maxRecDepth 100000

theorem entry_bjoin : entryFor table "bytes.join" = some Builtin.«bytes.join» := entryFor_of_tree (by kernel_rfl)
theorem slot_bjoin : Slot "bytes" "join" "bytes.join" :=
  .of (owner := "bytes") (n := "join") (by rw [typeLookup_type, builtinLookup_eq_fast]; kernel_rfl) (by decide +kernel) (by decide +kernel) (by decide +kernel)
    (by first | exact .inl (by decide +kernel) | exact .inr (by decide +kernel)) (by rw [isSubtype_type]; kernel_rfl)
theorem args_bjoin (a b : Value) : argsOk "bytes.join" ⟨[a, b], []⟩ := by
  unfold argsOk; kernel_rfl

theorem take_eq {id : String} {b : Array UInt8} {t : Tok} : Bytes.takeBufferQuiet? id (.bytes b t) 0 = pure (some (b, none)) := by
  unfold Bytes.takeBufferQuiet? Bytes.takeBuffer?
  have e : ((0 : Int) == Bytes.fullReadOnly) = false := by decide
  rw [e, W.KBy.special_eq W.KBy.look_buffer, W.KBy.own_buffer, W.KBy.buffer_eq]
  kernel_rfl

def bvs (l : List (Array UInt8 × Tok)) : List Value := l.map fun p => .bytes p.1 p.2

theorem joined_empty (l : List (Array UInt8)) : (Bytes.joined #[] l).toList = l.flatMap fun x => x.toList := by
  unfold Bytes.joined
  have : ∀ (l : List (Array UInt8)) (k : Nat) (acc : Array UInt8), ((l.zipIdx k).foldl (fun out (p, i) => (if i > 0 then out ++ #[] else out) ++ p) acc).toList = acc.toList ++ l.flatMap fun x => x.toList := by
    intro l
    induction l with
    | nil => intro k acc; simp
    | cons x r ih =>
      intro k acc
      rw [List.zipIdx_cons, List.foldl_cons, ih]
      simp
  rw [this]; simp
theorem wp_joinLetGo {M : Model} {A : Around} {E : Value → Shared → Prop} {s : Shared} {Q : Unit → Shared → Prop} {keep : List Value} : ∀ (taken : List (Value × Option Value)), (∀ p ∈ taken, p.2 = none) → Q () s → wpAny M A (Bytes.joinLetGo taken keep) Q E s
  | [], _, h => by unfold Bytes.joinLetGo; exact wpAny_pure h
  | (x, w) :: rest, hn, h => by
    have hw : w = none := hn (x, w) List.mem_cons_self
    subst hw
    unfold Bytes.joinLetGo
    exact wpAny_bind (wpAny_letGo (wp_joinLetGo rest (fun p hp => hn p (List.mem_cons_of_mem _ hp)) h))

theorem bjoin_tree {M : Model} {A : Around} {E : Value → Shared → Prop} {s : Shared} {Q : Fin → Shared → Prop} {D : Addr} {l : List (Array UInt8 × Tok)} {t : Tok} (hl : s.heap.IsList D (bvs l).toArray) (hne : l ≠ [])
    (hq : ∀ y t' k, y.toList = l.flatMap (fun p => p.1.toList) → Q (.done (.ret (.bytes y t'))) { s with toks := k }) (hz : (l.flatMap (fun p => p.1.toList)).length ≤ 1000000) :
    wpAny M A (Builtin.«bytes.join» ⟨[.bytes #[] t, .ref D], []⟩) Q E s := by
  obtain ⟨o, ho, hc, n, hd⟩ := id hl
  have hit : ∀ (Q : Option (Array Value) → Shared → Prop) (s' : Shared), s'.heap = s.heap → Q (some (bvs l).toArray) s' → wpAny M A (seqItems? (.ref D)) Q E s' := by
    intro Q s' e h
    unfold seqItems?
    refine wpAny_bind (wpAny_load (o := o) (by rw [e]; exact ho) ?_)
    rw [hd]
    exact wpAny_pure h
  unfold Builtin.«bytes.join» Bytes.joinM
  refine wpAny_bind (wpAny_of_eq (a := (.bytes #[] t, .ref D)) rfl ?_)
  show wpAny M A (Bytes.joinItems (.ref D) >>= fun seq => _) _ _ _
  refine wpAny_bind ?_
  unfold Bytes.joinItems
  refine wpAny_bind (wpAny_typeOf hl.typeIs ?_)
  rw [if_pos (by decide)]
  refine wpAny_pure ?_
  refine wpAny_bind (hit _ _ rfl ?_)
  show wpAny M A (match (bvs l).toArray with | #[x] => _ | _ => _) _ _ _
  have hlen : (bvs l).toArray.size = l.length := by simp [bvs]
  rcases l with _ | ⟨p, _ | ⟨q, r⟩⟩
  · exact absurd rfl hne
  · show wpAny M A (typeOf (.bytes p.1 p.2) >>= fun _ => _) _ _ _
    refine wpAny_bind (wpAny_typeOf (typeIs_bytes s p.1 p.2) ?_)
    rw [if_pos (by decide)]
    refine wpAny_bind (wpAny_rule (wpAny_pure ?_))
    have := hq p.1 p.2 s.toks (by simp)
    exact this
  · show wpAny M A (forIn [:(bvs (p :: q :: r)).toArray.size] _ _ >>= _) _ _ _
    generalize p :: q :: r = l at *
    refine wpAny_bind ?_
    rw [Std.Legacy.Range.forIn_eq_forIn_range']
    simp only [Std.Legacy.Range.size, Nat.sub_zero, Nat.add_sub_cancel, Nat.div_one]
    refine wpAny_forIn_list _ (fun rest (b : Array (Array UInt8) × List (Value × Option Value)) s' => ∃ i : Nat, rest = List.range' i (l.length - i) ∧ i ≤ l.length ∧ b.1.toList = (l.take i).map (·.1) ∧ (∀ p ∈ b.2, p.2 = none ∧ p.1.onHeap = false) ∧ s' = s) _ ?_ ?_ _ _ ⟨0, by rw [hlen]; rfl, Nat.zero_le _, rfl, (fun p hp => nomatch hp), rfl⟩
    · rintro x rest b s' ⟨i, hr, hi, hb, ht, rfl⟩
      obtain ⟨k, hk⟩ : ∃ k, l.length - i = k + 1 := by
        cases h : l.length - i with
        | zero => rw [h] at hr; cases hr
        | succ k => exact ⟨k, rfl⟩
      rw [hk, List.range'_succ] at hr
      obtain ⟨rfl, hrest⟩ := List.cons.inj hr
      have hlt : x < l.length := by omega
      have hx : (bvs l).toArray.getD x Value.none = .bytes l[x].1 l[x].2 := by simp [bvs, hlt]
      show wpAny M A (seqItems? (.ref D) >>= fun r => _) _ _ _
      refine wpAny_bind (hit _ _ rfl ?_)
      show wpAny M A (if (false || b.2.any (·.1.onHeap)) = true then _ else _) _ _ _
      have hany : (false || b.2.any (·.1.onHeap)) = false := by
        rw [Bool.false_or, List.any_eq_false]
        intro p hp
        rw [(ht p hp).2]; decide
      rw [hany, if_neg (by decide)]
      show wpAny M A (holding _ (Bytes.takeBufferQuiet? "bytes.join" ((bvs l).toArray.getD x Value.none) 0) >>= fun r => _) _ _ _
      refine wpAny_bind (wpAny_holding ?_)
      rw [hx]
      refine wpAny_of_eq take_eq ?_
      show wpAny M A (seqItems? (.ref D) >>= fun r => _) _ _ _
      refine wpAny_bind (hit _ _ rfl ?_)
      show wpAny M A (if ((bvs l).toArray.size != (bvs l).toArray.size) = true then _ else _) _ _ _
      rw [if_neg (by simp)]
      refine wpAny_pure ⟨x + 1, ?_, hlt, ?_, ?_, rfl⟩
      · rw [hrest]; congr 1; omega
      · show (b.1.push l[x].1).toList = _
        rw [Array.toList_push, hb, List.take_add_one, List.getElem?_eq_getElem hlt, List.map_append]
        rfl
      · intro p hp
        rcases List.mem_append.mp hp with hp | hp
        · exact ht p hp
        · rw [List.mem_singleton.mp hp]
          exact ⟨rfl, rfl⟩
    · rintro b s' ⟨i, hr, hi, hb, ht, rfl⟩
      have : l.length - i = 0 := by
        cases h : l.length - i with
        | zero => rfl
        | succ k => rw [h, List.range'_succ] at hr; cases hr
      have hi' : i = l.length := by omega
      rw [hi', List.take_length] at hb
      have hcat : (Bytes.joined #[] b.1.toList).toList = l.flatMap fun p => p.1.toList := by
        rw [joined_empty, hb, List.flatMap_map]
      have hlen2 : ∀ (ps : List (Array UInt8)) (n : Nat), ps.foldl (fun a (x : Array UInt8) => a + x.size) n = n + (ps.flatMap fun x => x.toList).length := by
        intro ps
        induction ps with
        | nil => intro n; simp
        | cons x r ih =>
          intro n
          rw [List.foldl_cons, ih, List.flatMap_cons, List.length_append]
          have : x.toList.length = x.size := rfl
          omega
      have hl2 : b.1.foldl (· + ·.size) ((#[] : Array UInt8).size * (b.1.size - 1)) = (l.flatMap fun p => p.1.toList).length := by
        rw [← Array.foldl_toList, hlen2, hb, List.flatMap_map]
        simp
      have hs : (Bytes.joined #[] b.1.toList).size ≤ sizeLine := by
        have : (Bytes.joined #[] b.1.toList).size = (Bytes.joined #[] b.1.toList).toList.length := rfl
        rw [this, hcat, sizeLine_eq]; omega
      show wpAny M A (Bytes.payload (.bytes #[] t) >>= fun sep => _) _ _ _
      refine wpAny_bind (wpAny_of_eq (a := #[]) rfl ?_)
      show wpAny M A (if Bytes.tooLong (b.1.foldl (· + ·.size) ((#[] : Array UInt8).size * (b.1.size - 1))) = true then _ else _) _ _ _
      rw [hl2, W.KBy.tooLong_not (by omega), if_neg (by decide)]
      show wpAny M A (mkBytes (Bytes.joined #[] b.1.toList) >>= fun result => _) _ _ _
      refine wpAny_bind (wpAny_mkBytes (wpAny_bind (wpAny_holding (wpAny_point (wpAny_bind (wp_joinLetGo b.2 (fun p hp => (ht p hp).1) (wpAny_pure ?_)))))) hs)
      exact hq _ _ _ hcat
theorem joins_bytes (prog : Program) (w : World) : JoinsOk prog w 1 := by
  intro A E s Q D l t hl hne hz hz' hq
  have e0 : pv 1 #[] t = .bytes #[] t := by unfold pv; simp
  rw [e0]
  show wpAny (model prog w) A (call (.builtin "bytes.join") [.bytes #[] t, .ref D]) Q E s
  have e : pvs 1 l = bvs (l.map fun p => (p.1.map (·.toUInt8), p.2)) := by
    unfold pvs bvs
    rw [List.map_map]
    rfl
  rw [e] at hl
  have hc : (l.map fun p => ((p.1.map (·.toUInt8) : Array UInt8), p.2)).flatMap (fun p => p.1.toList) = (cat l).map (·.toUInt8) := by
    unfold cat
    rw [List.flatMap_map, List.map_flatMap]
    simp
  refine wpAny_call (codeAny_call_builtin slot_bjoin.plain entry_bjoin (slot_bjoin.check _ _ _ _ _ _ _ _ (typeIs_bytes s _ _) (args_bjoin _ _) ?_))
  refine bjoin_tree hl (by simpa using hne) (fun y t' k hy => ?_) (by rw [hc]; simpa using hz)
  have := hq (cat l).toArray t' k (by simp)
  have e2 : pv 1 (cat l).toArray t' = .bytes y t' := by
    show Value.bytes _ _ = _
    congr 1
    apply Array.toList_inj.mp
    rw [hy, hc]; simp
  rw [e2] at this
  exact this

end Mine

end

section
namespace Mine
open PySem PySem.W PySem.Calls PyProof.Rows PySem.Builtin PySem.Builtin.Re
set_option maxRecDepth 100000

theorem lit_str (x : Str) (t : Tok) : reLiteralCannotBeTurned (.str x t) = pure () := rfl
theorem lit_bytes (b : Array UInt8) (t : Tok) : reLiteralCannotBeTurned (.bytes b t) = pure () := by
  unfold reLiteralCannotBeTurned
  have e : asStr? (.bytes b t) = pure none := rfl
  rw [e, W.KBy.isInstance_eq]
  rfl
theorem subj_pv (kind : Nat) (hk : kind = 0 ∨ kind = 1) (text : Array Nat) (t : Tok) (h : ∀ c ∈ text, c < 256) : Subj (pv kind text t) text kind := by
  rcases hk with rfl | rfl
  · exact subj_str ⟨text⟩ t
  · have e : pv 1 text t = .bytes (text.map (·.toUInt8)) t := rfl
    rw [e]
    have := subj_bytes (text.map (·.toUInt8)) t
    have e2 : (text.map (·.toUInt8)).map (·.toNat) = text := by
      rw [Array.map_map]
      apply Array.toList_inj.mp
      rw [Array.toList_map]
      have : ∀ l : List Nat, (∀ c ∈ l, c < 256) → l.map ((fun x : UInt8 => x.toNat) ∘ fun x => x.toUInt8) = l := by
        intro l
        induction l with
        | nil => intro _; rfl
        | cons c r ih =>
          intro hc
          rw [List.map_cons, ih fun d hd => hc d (List.mem_cons_of_mem _ hd)]
          have h1 := hc c List.mem_cons_self
          congr 1
          show (c.toUInt8).toNat = c
          simp; omega
      exact this _ fun c hc => h c (Array.mem_def.mpr hc)
    rw [e2] at this
    exact this

theorem sub_call {prog : Program} {w : World} {A : Around} {E : Value → Shared → Prop} {Q : Value → Shared → Prop} {a : Addr} {code text repl : Array Nat} {kind : Nat} {sv : Value} {tr : Tok} {s : Shared}
    (hkind : kind = 0 ∨ kind = 1) (hP : PatAt s.heap a code kind) (hS : Subj sv text kind) (h92 : repl.contains 92 = false) (h92' : (repl.map (·.toUInt8)).contains 92 = false)
    (nxt : Nat → Option (Nat × Nat)) (hN : ∀ i, i ≤ text.size → ∃ n m, n ≤ 2 ^ 40 ∧ Sre.M.runFor n (Sre.forSearch code text 0 i text.size false) = m ∧ Ends m (nxt i))
    (hnx : ∀ i b e, nxt i = some (b, e) → i ≤ b ∧ b < e ∧ e ≤ text.size)
    (outF : Nat → List Nat) (h1 : ∀ i b e, nxt i = some (b, e) → outF i = (text.extract i b).toList ++ repl.toList ++ outF e) (h2 : ∀ i, nxt i = none → outF i = (text.extract i text.size).toList)
    (hlen : text.size ≤ 10000) (hrl : repl.size ≤ 10) (hpos : 0 < text.size)
    (hq : ∀ y t s', y.toList = outF 0 → Keeps s s' → Q (pv kind y t) s') : wpAny (model prog w) A (call (.builtin "re.Pattern.sub") [.ref a, pv kind repl tr, sv]) Q E s := by
  obtain ⟨o, _, _, _, _, _, ho, hc, _⟩ := hP.has
  refine wpAny_call (codeAny_call_builtin slot_sub.plain entry_sub (slot_sub.check _ _ _ _ _ _ _ _ ⟨o, ho, hc⟩ (args_sub _ _ _) ?_))
  unfold Builtin.«re.Pattern.sub» reSubstitute
  show wpAny _ _ (reNamed "re.Pattern.sub" "sub" ["repl", "string", "count"] 2 [pv kind repl tr, sv] [] >>= fun r => _) _ _ _
  refine wpAny_bind (wpAny_of_eq (named_sub _ _) ?_)
  show wpAny _ _ (specialOf (pv kind repl tr) "__call__" >>= fun r => _) _ _ _
  have hcall : specialOf (pv kind repl tr) "__call__" = pure none := by
    rcases hkind with rfl | rfl
    · exact call_none_str
    · exact call_none_bytes
  refine wpAny_bind (wpAny_of_eq hcall ?_)
  have hJ : JoinsOk prog w kind := by
    rcases hkind with rfl | rfl
    · exact joins_str prog w
    · exact joins_bytes prog w
  have hL : reLiteralCannotBeTurned (pv kind repl tr) = pure () := by
    rcases hkind with rfl | rfl
    · exact lit_str ⟨repl⟩ tr
    · exact lit_bytes (repl.map (·.toUInt8)) tr
  have hD : s.heap.get? s.heap.objs.size = none := by
    cases h : s.heap.get? s.heap.objs.size with
    | none => rfl
    | some o => exact absurd (Heap.lt_size h) (Nat.lt_irrefl _)
  have main : wpAny (model prog w) A.in1 (do
      let _ ← holding [pv kind repl tr] (reWholeTarget (.ref a) sv)
      again (.builtin "re.Pattern.sub.loop" ⟨[.ref a, sv, pv kind repl tr, rawInt 0, rawInt 0, rawInt 0, rawInt 0, rawInt 0, .bool false, ← newList [], .bool false], []⟩))
      (fun fin s' => match fin with
      | .done f => (match (Except.ok f : Result) with | .ok (.ret v) => Q v s' | .ok _ => False | .error e => E e s')
      | .again c' => c'.quiet = true ∧ codeAny (model prog w) A c' (fun r s' => match r with | .ok (.ret v) => Q v s' | .ok _ => False | .error e => E e s') s') (fun e s' => E e s') s := by
    refine wpAny_bind (wpAny_holding (wp_whole hP hS ?_))
    refine wpAny_bind (wpAny_newObj_type ?_ (by show (0 : Nat) ≤ sizeLine; exact Nat.zero_le _))
    refine wpAny_pure ⟨plainId_quiet plain_loop _, ?_⟩
    refine subLoop hJ hP hD hS hL nxt hN hnx outF h1 h2 hlen hrl hpos text.size 0 0 [] _ (by omega) (Nat.zero_le _) (.inl rfl) (by simp) (by simp [cat]) ⟨_, Heap.get?_push_size _ rfl⟩ (fun b o e => Heap.get?_push_of_some _ e) ?_
    intro y t h' k hy hk
    exact hq y t _ (by simpa [cat] using hy) ⟨h', k, rfl, hk⟩
  rcases hkind with rfl | rfl
  · have e : (!(⟨repl⟩ : Str).cps.contains 92) = true := by
      show (!repl.contains 92) = true
      rw [h92]; rfl
    show wpAny _ _ (asStr? (.str ⟨repl⟩ tr) >>= fun r => _) _ _ _
    refine wpAny_bind (wpAny_of_eq (a := some ⟨repl⟩) rfl ?_)
    show wpAny _ _ (pure (!(⟨repl⟩ : Str).cps.contains 92) >>= fun r => _) _ _ _
    refine wpAny_bind (wpAny_pure ?_)
    rw [e]
    exact main
  · have hpv : pv 1 repl tr = .bytes (repl.map (·.toUInt8)) tr := rfl
    rw [hpv] at main ⊢
    generalize repl.map (·.toUInt8) = br at main h92' ⊢
    have e : (!br.contains 92) = true := by rw [h92']; rfl
    show wpAny _ _ (asStr? (.bytes br tr) >>= fun r => _) _ _ _
    refine wpAny_bind (wpAny_of_eq (a := none) rfl ?_)
    show wpAny _ _ (Bytes.bufferQuiet? "re.Pattern.sub" (.bytes br tr) >>= fun r => _) _ _ _
    refine wpAny_bind (wpAny_of_eq (a := some br) W.KBy.quiet_eq ?_)
    show wpAny _ _ (pure (!br.contains 92) >>= fun r => _) _ _ _
    refine wpAny_bind (wpAny_pure ?_)
    rw [e]
    exact main

theorem sub_ends {prog : Program} {w : World} {A : Around} {E : Value → Shared → Prop} {Q : Value → Shared → Prop} {a : Addr} {x : Str} {t tr : Tok} {s : Shared}
    (hP : PatAt s.heap a code3 0) (hlen : x.cps.size ≤ 10000) (hpos : 0 < x.cps.size)
    (hq : ∀ y t s', y.cps.toList = fixE x.cps.toList → Keeps s s' → Q (.str y t) s') : wpAny (model prog w) A (call (.builtin "re.Pattern.sub") [.ref a, .str ⟨#[13, 10]⟩ tr, .str x t]) Q E s := by
  refine sub_call (kind := 0) (repl := #[13, 10]) (.inl rfl) hP (subj_str x t) (by decide +kernel) (by decide +kernel) (fun i => (nextEnd x.cps (x.cps.size - i) i).map fun p => (p, p + endLen x.cps p)) (fun i hi => ?_) ?_ (outEnd x.cps) ?_ ?_ hlen (by decide) hpos (fun y t s' hy hk => hq ⟨y⟩ t s' hy hk)
  · obtain ⟨n, m, h1, h2, h3⟩ := search3 x.cps i hi
    exact ⟨n, m, by omega, h2, h3⟩
  · intro i b e h
    rw [Option.map_eq_some_iff] at h
    obtain ⟨p, hp, h⟩ := h
    cases h
    obtain ⟨g1, g2, g3⟩ := nextEnd_some _ _ _ _ hp
    obtain ⟨g4, g5⟩ := endLen_le x.cps b (by omega)
    exact ⟨g1, by omega, g5⟩
  · intro i b e h
    rw [Option.map_eq_some_iff] at h
    obtain ⟨p, hp, h⟩ := h
    cases h
    obtain ⟨g1, g2, g3⟩ := nextEnd_some _ _ _ _ hp
    exact outEnd_some x.cps _ i b (by omega) hp
  · intro i h
    rw [Option.map_eq_none_iff] at h
    by_cases hi : i ≤ x.cps.size
    · exact outEnd_none x.cps _ i (by omega) h
    · unfold outEnd
      rw [ext_list, List.drop_eq_nil_of_le (by simp; omega)]
      simp [fixE]

theorem sub_dots {prog : Program} {w : World} {A : Around} {E : Value → Shared → Prop} {Q : Value → Shared → Prop} {a : Addr} {kind : Nat} {text : Array Nat} {t tr : Tok} {s : Shared}
    (hkind : kind = 0 ∨ kind = 1) (h256 : ∀ c ∈ text, c < 256) (hP : PatAt s.heap a code1 kind) (hlen : text.size ≤ 10000) (hpos : 0 < text.size)
    (hq : ∀ y t s', y.toList = dots true text.toList → Keeps s s' → Q (pv kind y t) s') : wpAny (model prog w) A (call (.builtin "re.Pattern.sub") [.ref a, pv kind #[46, 46] tr, pv kind text t]) Q E s := by
  refine sub_call (repl := #[46, 46]) hkind hP (subj_pv kind hkind text t h256) (by decide +kernel) (by decide +kernel) (fun i => (nextDot text (text.size - i) i).map fun p => (p, p + 1)) (fun i hi => ?_) ?_ (outDot text) ?_ ?_ hlen (by decide) hpos (fun y t s' hy hk => hq y t s' hy hk)
  · obtain ⟨n, m, h1, h2, h3⟩ := search1 text i hi
    exact ⟨n, m, by omega, h2, h3⟩
  · intro i b e h
    rw [Option.map_eq_some_iff] at h
    obtain ⟨p, hp, h⟩ := h
    cases h
    obtain ⟨g1, g2, g3⟩ := nextDot_some _ _ _ _ hp
    exact ⟨g1, by omega, by omega⟩
  · intro i b e h
    rw [Option.map_eq_some_iff] at h
    obtain ⟨p, hp, h⟩ := h
    cases h
    obtain ⟨g1, g2, g3⟩ := nextDot_some _ _ _ _ hp
    exact outDot_some text _ i b (by omega) hp
  · intro i h
    rw [Option.map_eq_none_iff] at h
    by_cases hi : i ≤ text.size
    · exact outDot_none text _ i (by omega) h
    · unfold outDot
      rw [ext_list, List.drop_eq_nil_of_le (by simp; omega)]
      simp [dots]
end Mine

end

section
namespace Mine
open PySem PySem.W PySem.Calls PyProof.Rows
set_option maxRecDepth 100000

/-- the statement k of the text -/
def stmtAt (k : Nat) : Stmt := match PySem.Challenge.pw_nb0038_01.main.body[k]? with | some st => st | none => .Pass ⟨0, 0, 0, 0⟩
def bodyOf : Stmt → List Stmt
  | .FunctionDef _ _ b _ _ _ _ _ _ _ => b
  | _ => []
def scopeOf : Stmt → Scope
  | .FunctionDef _ _ _ _ _ _ sc _ _ _ => sc
  | _ => default
def fdOf (k : Nat) (dfl pm cd : Value) : FuncData :=
  match stmtAt k with
  | .FunctionDef name args body _ _ _ scope _ _ _ => { name := name, qualname := name, params := args, body := .stmts body, scope := scope, globals := mainGlobals, closure := [], defaults := dfl, kwdefaults := .none, pyModule := pm, code := cd, builtins := builtinsNs }
  | _ => default

/-- what stands of the top -/
structure Base (w : World) (mg mb : Str → Option Value) (h : Heap) : Prop where
  k : (hd.heap_39 w.params).In h
  g : h.Ns mainGlobals mg
  b : h.Ns builtinsNs mb
  lim : h.NoLimit
  bi : ∀ x : Str, x ≠ "__name__" → mb x = bootBuiltins x
theorem Base.keeps {w : World} {mg mb : Str → Option Value} {h h' : Heap} (B : Base w mg mb h) (hk : ∀ b o, h.get? b = some o → h'.get? b = some o) : Base w mg mb h' :=
  ⟨B.k.keeps hk, B.g.keeps hk, B.b.keeps hk, B.lim.keeps hk, B.bi⟩

/-- an environment of a frame of the text's own -/
structure EnvOk (env : Env) (L : Addr) (sc : Scope) : Prop where
  kind : env.scope.kind = .function
  loc : env.locals = L
  gl : env.globals = mainGlobals
  bi : env.builtins = builtinsNs
  kinds : ∀ x, env.kindOf x = sc.names.lookup x

/-- what is around -/
structure AOk (A : Around) (n : Nat) : Prop where
  handled : A.handled = none
  depth : A.depth ≤ 310 + n
  units : A.units ≤ 100 + 4 * n
theorem AOk.mono {A : Around} {n m : Nat} (x : AOk A n) (h : n ≤ m) : AOk A m := ⟨x.handled, by have := x.depth; omega, by have := x.units; omega⟩
theorem AOk.deeper {A : Around} {n : Nat} (x : AOk A n) (env : Env) : AOk (A.deeper env) (n + 1) :=
  ⟨x.handled, by have := x.depth; show A.depth + 1 ≤ _; omega, by have := x.units; show A.units + 3 ≤ _; omega⟩
theorem AOk.in1 {A : Around} {n : Nat} (x : AOk A n) : AOk A.in1 (n + 1) :=
  ⟨x.handled, by have := x.depth; show A.depth ≤ _; omega, by have := x.units; show A.units + 1 ≤ _; omega⟩

theorem Keeps.refl (s : Shared) : Keeps s s := ⟨s.heap, s.toks, rfl, fun _ _ e => e⟩
theorem Keeps.trans {s s₁ s₂ : Shared} (x : Keeps s s₁) (y : Keeps s₁ s₂) : Keeps s s₂ := by
  obtain ⟨h, t, rfl, k⟩ := x
  obtain ⟨h', t', rfl, k'⟩ := y
  exact ⟨h', t', rfl, fun b o e => k' b o (k b o e)⟩

section
variable {prog : Program} {w : World} {A : Around} {E : Value → Shared → Prop} {s : Shared} {mg mb : Str → Option Value}

theorem call_fd {n : Nat} {fd : FuncData} {a : Addr} {od : Option Addr} {oc : Value} {osl : Array (Option Value)} {body : List Stmt} {args : List Value} {binds : List (Str × Value)} {Q : Value → Shared → Prop}
    (hA : AOk A n) (hn : n ≤ 100) (B : Base w mg mb s.heap) (ho : (hd.heap_39 w.params).lookup a = some ⟨oc, od, .func fd, osl⟩) (hb : fd.body = .stmts body) (hcd : codeIn (hd.heap_39 w.params) fd.code fd.qualname = true)
    (hbind : BindsTo s fd ⟨args, []⟩ binds) (hcell : ∀ x ∈ fd.scope.names, x.2 ≠ .cell) (hloc : ∀ x ∈ binds, fd.scope.names.lookup x.1 = some .local)
    (hco : fd.scope.isCoroutine = false) (hgen : fd.scope.isGenerator = false) (hk : fd.scope.kind = .function) (hgl : fd.globals = mainGlobals) (hbi : fd.builtins = builtinsNs)
    (h : ∀ env h₁ E', EnvOk env s.heap.objs.size fd.scope → Fr s.heap s.heap.objs.size h₁ (fun x => binds.reverse.lookup x) → AOk (A.deeper env) (n + 1) →
      wpAny (model prog w) (A.deeper env) (execs body env) (fun f s' => Q (match f with | .ret v => v | _ => .none) s') E' { s with heap := h₁, toks := s.toks + binds.length }) :
    wpAny (model prog w) A (call (.ref a) args) Q E s := by
  refine wpAny_call (codeAny_call_def (fd := fd) (by have := hA.depth; unfold recursionLimit; omega) (B.k _ _ ho) rfl B.lim (codeRec_of B.k hcd) hb hbind hcell hloc (fun h₀ hns hkeep => ?_) hco hgen hk)
  refine h (callEnv fd s.heap.objs.size a) h₀ _ ⟨hk, rfl, hgl, hbi, fun x => rfl⟩ ⟨hns, hkeep, Nat.le_refl _⟩ (hA.deeper _)

end

theorem fn_joined (P : Params) : (hd.heap_39 P).lookup 102 = some ⟨.type "function", none, .func (fdOf 16 .none (.str "law_nb0038_01" 396) (.ref 101)), #[]⟩ := by kernel_rfl

end Mine

end

section
namespace Mine
open PySem PySem.Builtin

def clipLo (l : Option Int) (n : Nat) : Nat := match l with | none => 0 | some i => (max 0 (min (if i < 0 then i + n else i) (n : Int))).toNat
def clipHi (u : Option Int) (n : Nat) : Nat := match u with | none => n | some i => (max 0 (min (if i < 0 then i + n else i) (n : Int))).toNat

theorem pick_range {α : Type} (xs : List α) (a n : Nat) (h : a + n ≤ xs.length) : ((List.range n).map fun k => a + k).filterMap (fun i => xs[i]?) = (xs.drop a).take n := by
  induction n generalizing a with
  | zero => simp
  | succ n ih =>
    have hlt : a < xs.length := by omega
    rw [List.range_succ_eq_map, List.map_cons, List.map_map]
    have e : ((fun k => a + k) ∘ Nat.succ) = fun k => (a + 1) + k := by funext k; simp only [Function.comp]; omega
    rw [e, List.filterMap_cons, Nat.add_zero, List.getElem?_eq_getElem hlt]
    simp only
    rw [ih (a + 1) (by omega), List.drop_eq_getElem_cons hlt, List.take_succ_cons]

theorem range1 (a b : Nat) : sliceRange (a : Int) (b : Int) 1 = (List.range (b - a)).map fun k => a + k := by
  unfold sliceRange
  have e : (if (1 : Int) > 0 then (if (a : Int) < b then ((b : Int) - a + 1 - 1) / 1 else 0) else (if (a : Int) > b then ((a : Int) - b - 1 - 1) / (-1) else 0)).toNat = b - a := by
    rw [if_pos (by decide)]
    split
    · rw [Int.ediv_one]; omega
    · omega
  simp only [e]
  apply List.map_congr_left
  intro k _
  omega

theorem slice_idx (l u : Option Int) (n : Nat) : Builtin.Str.strSliceIndices l u 1 n = (List.range (clipHi u n - clipLo l n)).map fun k => clipLo l n + k := by
  rw [← range1]
  unfold Builtin.Str.strSliceIndices clipHi clipLo
  have h1 : (1 : Int) > 0 := by decide
  simp only [h1, if_true]
  congr 1
  · cases l with
    | none => rfl
    | some i => dsimp only; omega
  · cases u with
    | none => rfl
    | some i => dsimp only; omega

theorem clipHi_le (u : Option Int) (n : Nat) : clipHi u n ≤ n := by
  unfold clipHi
  cases u with
  | none => exact Nat.le_refl _
  | some i => dsimp only; omega
theorem clipLo_le (u : Option Int) (n : Nat) : clipLo u n ≤ n := by
  unfold clipLo
  cases u with
  | none => exact Nat.zero_le _
  | some i => dsimp only; omega

theorem slice_toList (x : Str) (l u : Option Int) : (Txt.slice x l u).cps.toList = (x.cps.toList.drop (clipLo l x.length)).take (clipHi u x.length - clipLo l x.length) := by
  have hlen : x.cps.toList.length = x.length := rfl
  have h1 := clipHi_le u x.length
  have h2 := clipLo_le l x.length
  unfold Txt.slice
  rw [slice_idx]
  split
  · rename_i h
    rw [Bool.and_eq_true, List.length_map, List.length_range, beq_iff_eq] at h
    have h := h.2
    rw [beq_iff_eq] at h
    have e1 : clipLo l x.length = 0 := by omega
    rw [e1] at h ⊢
    rw [h, List.drop_zero, List.take_of_length_le (by omega)]
  · have := pick_range x.cps.toList (clipLo l x.length) (clipHi u x.length - clipLo l x.length) (by omega)
    rw [← this]
    simp only [Array.getElem?_toList]

theorem slice_from (x : Str) (n : Nat) : (Txt.slice x (some (n : Int)) none).cps.toList = x.cps.toList.drop n := by
  rw [slice_toList]
  have hlen : x.cps.toList.length = x.length := rfl
  unfold clipLo clipHi
  dsimp only
  have e : (max 0 (min (if (n : Int) < 0 then (n : Int) + (x.length : Int) else n) (x.length : Int))).toNat = min n x.length := by omega
  rw [e, List.take_of_length_le (by rw [List.length_drop]; omega)]
  by_cases h : n ≤ x.length
  · rw [Nat.min_eq_left h]
  · rw [Nat.min_eq_right (by omega), List.drop_eq_nil_of_le (by omega), List.drop_eq_nil_of_le (by omega)]
theorem slice_to (x : Str) (n : Nat) : (Txt.slice x none (some (n : Int))).cps.toList = x.cps.toList.take n := by
  rw [slice_toList]
  have hlen : x.cps.toList.length = x.length := rfl
  unfold clipLo clipHi
  dsimp only
  have e : (max 0 (min (if (n : Int) < 0 then (n : Int) + (x.length : Int) else n) (x.length : Int))).toNat = min n x.length := by omega
  rw [e, List.drop_zero, Nat.sub_zero]
  by_cases h : n ≤ x.length
  · rw [Nat.min_eq_left h]
  · rw [Nat.min_eq_right (by omega), List.take_of_length_le (by omega), List.take_of_length_le (by omega)]
theorem slice_last (x : Str) : (Txt.slice x (some (-1)) none).cps.toList = x.cps.toList.drop (x.cps.toList.length - 1) := by
  rw [slice_toList]
  have hlen : x.cps.toList.length = x.length := rfl
  unfold clipLo clipHi
  dsimp only
  have e : (max 0 (min (if (-1 : Int) < 0 then -1 + (x.length : Int) else -1) (x.length : Int))).toNat = x.length - 1 := by
    rw [if_pos (by decide)]; omega
  rw [e, hlen, List.take_of_length_le (by rw [List.length_drop]; omega)]
theorem slice_mid (x : Str) (a b : Nat) (h : b ≤ x.length) : (Txt.slice x (some (a : Int)) (some (b : Int))).cps.toList = (x.cps.toList.drop a).take (b - a) := by
  rw [slice_toList]
  have hlen : x.cps.toList.length = x.length := rfl
  unfold clipLo clipHi
  dsimp only
  have e : (max 0 (min (if (a : Int) < 0 then (a : Int) + (x.length : Int) else a) (x.length : Int))).toNat = min a x.length := by omega
  have e' : (max 0 (min (if (b : Int) < 0 then (b : Int) + (x.length : Int) else b) (x.length : Int))).toNat = b := by omega
  rw [e, e']
  by_cases h' : a ≤ x.length
  · rw [Nat.min_eq_left h']
  · rw [Nat.min_eq_right (by omega), List.drop_eq_nil_of_le (by omega), List.drop_eq_nil_of_le (by omega)]
    simp
end Mine

end

section
namespace Mine
open PySem PySem.W PySem.Calls PyProof.Rows
set_option maxRecDepth 100000

section
variable {prog : Program} {w : World} {A : Around} {E : Value → Shared → Prop} {s : Shared} {mg mb : Str → Option Value} {env : Env} {L : Addr} {sc : Scope} {h₀ : Heap} {m : Str → Option Value} {x : Str} {pos : Pos} {v : Value} {Q : Value → Shared → Prop}

theorem nmL (e : EnvOk env L sc) (F : Fr h₀ L s.heap m) (hx : sc.names.lookup x = some .local) (hv : m x = some v) (h : Q v s) (hd : (x == ("__debug__" : Str)) = false) :
    wpAny (model prog w) A (eval (.Name x pos) env) Q E s :=
  wpAny_Name (wpAny_loadName_local e.kind ((e.kinds x).trans hx) (e.loc.symm ▸ F.ns) hv h) hd
theorem nmG (e : EnvOk env L sc) (B : Base w mg mb s.heap) (hx : sc.names.lookup x = some .globalImplicit) (hv : nsIn (hd.heap_39 w.params) mainGlobals x = some (some v)) (h : Q v s) (hd : (x == ("__debug__" : Str)) = false) :
    wpAny (model prog w) A (eval (.Name x pos) env) Q E s :=
  Name_function_global e.kind ((e.kinds x).trans hx) (loadGlobal_global (e.gl.symm ▸ B.g) (mg_of B.k B.g hv) h) hd
theorem nmB (e : EnvOk env L sc) (B : Base w mg mb s.heap) (hx : sc.names.lookup x = some .globalImplicit) (hv : nsIn (hd.heap_39 w.params) mainGlobals x = some none) (hb : bootBuiltins x = some v) (hn : x ≠ "__name__") (h : Q v s) (hd : (x == ("__debug__" : Str)) = false) :
    wpAny (model prog w) A (eval (.Name x pos) env) Q E s :=
  Name_function_global e.kind ((e.kinds x).trans hx) (loadGlobal_builtin (e.gl.symm ▸ B.g) (mg_none_of B.k B.g hv) (e.bi.symm ▸ B.b) ((B.bi x hn).trans hb) h) hd
theorem stL {Q : Unit → Shared → Prop} (e : EnvOk env L sc) (F : Fr h₀ L s.heap m) (hx : sc.names.lookup x = some .local)
    (h : ∀ h', Fr h₀ L h' (fun y => if y = x then some v else m y) → Heap.SameBut L s.heap h' → Q () { s with heap := h', toks := s.toks + 1 }) : wpAny (model prog w) A (storeName env x v) Q E s :=
  wpAny_storeName_local ((e.kinds x).trans hx) (e.loc.symm ▸ F.ns) (fun h' hn hs => h h' (F.set (e.loc ▸ hn) (e.loc ▸ hs)) (e.loc ▸ hs)) (by rw [e.kind]; rfl)

theorem slice_tail {value slice : Expr} {x : Str} {t : Tok} {lv uv : Value} {lo hi : Option Int} (hl : IsPart lv lo) (hu : IsPart uv hi) (hsz : x.length ≤ sizeLine)
    (h : ∀ h' t' k, (∀ b o, s.heap.get? b = some o → h'.get? b = some o) → Q (.str (Txt.slice x lo hi) t') { s with heap := h', toks := k })
    (hs : subscripted slice false (.str x t) (.ref s.heap.objs.size) = operate [.ref s.heap.objs.size, .str x t] (getItem (.str x t) (.ref s.heap.objs.size)))
    (ht : ∀ r, letTemporaryGo value (.str x t) r = pure ()) :
    wpAny (model prog w) A (subscriptTail value slice (.str x t) (.ref s.heap.objs.size)) Q E { s with heap := s.heap.push { cls := .type "slice", data := .fields #[lv, uv, .none] } } := by
  have hk : KeptH (fun h' => ∀ b o, s.heap.get? b = some o → h'.get? b = some o) := fun h ob k b o e => Heap.get?_push_of_some ob (k b o e)
  cases hl with
  | none => cases hu with
    | none => exact tail_of_ItemOn (SBH.sliceItem_nn hk (fun _ _ e => e) h hsz) hs ht
    | int j u => exact tail_of_ItemOn (SBH.sliceItem_ns hk (fun _ _ e => e) h hsz) hs ht
  | int i u' => cases hu with
    | none => exact tail_of_ItemOn (SBH.sliceItem_sn hk (fun _ _ e => e) h hsz) hs ht
    | int j u => exact tail_of_ItemOn (SBH.sliceItem_ss hk (fun _ _ e => e) h hsz) hs ht
end

/-- a word on the heap -/
def WordAt (h : Heap) (v : Value) (x : Word) : Prop :=
  ∃ a t n, v = .ref a ∧ h.get? a = some { cls := .type "tuple", data := .seq #[.str ⟨x.1.toArray⟩ t, .bool x.2.1, .bool x.2.2.1, .bool x.2.2.2] n }
theorem WordAt.keeps {h h' : Heap} {v : Value} {x : Word} (k : WordAt h v x) (hk : ∀ b o, h.get? b = some o → h'.get? b = some o) : WordAt h' v x := by
  obtain ⟨a, t, n, e, g⟩ := k
  exact ⟨a, t, n, e, hk _ _ g⟩


theorem word_item {prog : Program} {w : World} {A : Around} {E : Value → Shared → Prop} {s : Shared} {value slice : Expr} {a : Addr} {vs : List Value} {n : Nat} {k : Int} {u : Tok} {j : Nat} {v : Value} {h₀ : Heap} {L : Addr} {m : Str → Option Value} {Q : Value → Shared → Prop}
    (F : Fr h₀ L s.heap m) (hw : h₀.get? a = some { cls := .type "tuple", data := .seq vs.toArray n }) (hj : seqIndex? k vs.length = some j) (hx : vs[j]? = some v) (hlo : -(2 ^ 63) ≤ k) (hhi : k < 2 ^ 63) (h : Q v s)
    (hs : subscripted slice false (.ref a) (.int k u) = operate [.ref a, .int k u] (getItem (.ref a) (.int k u))) :
    wpAny (model prog w) A (subscriptTail value slice (.ref a) (.int k u)) Q E s :=
  item_tupleT ⟨_, F.keep _ _ hw, rfl, n, rfl⟩ hlo hhi hj hx h hs

local macro_rules | `(tactic| walk_at "ast") => `(tactic| first
  | with_reducible refine wpAny_execs_cons ?_
  | with_reducible refine wpAny_execs_nil ?_
  | ((with_reducible refine wpAny_Assign_Name ?_ ?p1); (case p1 => rfl))
  | with_reducible refine wpAny_If ?_
  | with_reducible refine wpAny_Return_some ?_
  | with_reducible refine isTrue_and ?_
  | with_reducible refine isTrue_and_nil ?_
  | with_reducible refine wpAny_isTrue_Compare1 ?_
  | ((with_reducible show wpAny _ _ (PySem.isTrue (Expr.Subscript _ _ _) _ _) _ _ _); refine isTrue_plain ?_ (by rfl))
  | with_reducible refine Subscript_ ?_
  | with_reducible refine wpAny_Constant_int ?_
  | with_reducible refine wpAny_Constant_str ?_
  | with_reducible refine wpAny_Slice ?_
  | with_reducible refine evalPart_none_step ?_
  | with_reducible refine evalPart_some_step ?_
  | with_reducible refine wpAny_UnaryOp ?_
  | with_reducible refine neg_int ?_
  | with_reducible refine wpAny_BinOp ?_
  | with_reducible refine wpAny_Tuple ?_
  | ((with_reducible show wpAny _ _ (spliced (backTo _ (starEach (_ :: _) _))) _ _ _); refine wpAny_items_cons ?_)
  | ((with_reducible show wpAny _ _ (spliced (backTo _ (starEach [] _))) _ _ _); refine wpAny_items_nil ?_)
  | with_reducible refine wpAny_truthy_bool ?_
  | ((with_reducible show wpAny _ _ (eval (Expr.Name _ _) _) _ _ _); refine nmL (by assumption) (by assumption) (by rfl) (by first | assumption | rfl) ?_ (by decide))
  | ((with_reducible show wpAny _ _ (subscriptTail _ _ (Value.ref _) (Value.int _ _)) _ _ _); refine word_item (by assumption) (by assumption) (by rfl) (by rfl) (by decide) (by decide) ?_ (by rfl)))

set_option maxHeartbeats 4000000 in
theorem body_joined {prog : Program} {w : World} {A : Around} {E : Value → Shared → Prop} {s : Shared} {mg mb : Str → Option Value} {env : Env} {L : Addr} {h₀ : Heap} {l r : Value} {x y : Word} {Q : Flow → Shared → Prop}
    (e : EnvOk env L (scopeOf (stmtAt 16))) (B : Base w mg mb h₀) (F : Fr h₀ L s.heap (fun z => [((Str.ofString "left"), l), ((Str.ofString "right"), r)].reverse.lookup z)) (hl : WordAt h₀ l x) (hr : WordAt h₀ r y)
    (hx : x.1.length ≤ 1000) (hy : y.1.length ≤ 1000)
    (h : ∀ v h' k, WordAt h' v (joined x y) → (∀ b o, h₀.get? b = some o → h'.get? b = some o) → Q (.ret v) { s with heap := h', toks := k }) :
    wpAny (model prog w) A (execs (bodyOf (stmtAt 16)) env) Q E s := by
  obtain ⟨la, lt, ln, rfl, hla⟩ := id hl
  obtain ⟨ra, rt, rn, rfl, hra⟩ := id hr
  obtain ⟨xo, xb, xe, xd⟩ := x
  obtain ⟨yo, yb, ye, yd⟩ := y
  dsimp only at hla hra hx hy
  refine wpAny_execs_cons ?_
  repeat walk_at "ast"
  refine stL e F (by rfl) fun h₁ F₁ _ => ?_
  dsimp only
  clear F
  refine wpAny_execs_cons (wpAny_mono (Q := fun f s' => f = .next ∧ ∃ z t h' k m', s' = { s with heap := h', toks := k } ∧ Fr h₀ L h' m' ∧ m' (Str.ofString "more") = some (.str z t) ∧ m' (Str.ofString "left") = some (.ref la) ∧ m' (Str.ofString "right") = some (.ref ra) ∧
      z.cps.toList = (if xe = true ∧ yb = true then yo.drop 2 else if xd = true ∧ yo.take 1 = [46] ∧ xo.drop (xo.length - 1) ≠ [10] then yo.drop 1 else yo)) ?_ (fun f s' hP => ?_) (fun _ _ x => x))
  · have hyl : (⟨yo.toArray⟩ : Str).length ≤ sizeLine := by show yo.toArray.size ≤ sizeLine; rw [List.size_toArray, sizeLine_eq]; omega
    have hxl : (⟨xo.toArray⟩ : Str).length ≤ sizeLine := by show xo.toArray.size ≤ sizeLine; rw [List.size_toArray, sizeLine_eq]; omega
    repeat walk_at "ast"
    have hor : (xe = true ∧ yb = true) ∨ ¬ (xe = true ∧ yb = true) := Classical.em _
    -- the second branch
    have second : ∀ (tk : Nat), ¬ (xe = true ∧ yb = true) → wpAny (model prog w) A (execs (match bodyOf (stmtAt 16) with | [_, .If _ _ o _, _] => o | _ => []) env)
        (fun f s' => f = .next ∧ ∃ z t h' k m', s' = { s with heap := h', toks := k } ∧ Fr h₀ L h' m' ∧ m' (Str.ofString "more") = some (.str z t) ∧ m' (Str.ofString "left") = some (.ref la) ∧ m' (Str.ofString "right") = some (.ref ra) ∧
          z.cps.toList = (if xe = true ∧ yb = true then yo.drop 2 else if xd = true ∧ yo.take 1 = [46] ∧ xo.drop (xo.length - 1) ≠ [10] then yo.drop 1 else yo)) E { s with heap := h₁, toks := tk } := by
      intro tk hn
      rw [if_neg hn]
      refine wpAny_execs_cons ?_
      repeat walk_at "ast"
      cases xd with
      | false =>
        refine ite_ff ?_
        refine ite_ff ?_
        repeat walk_at "ast"
        exact ⟨rfl, _, _, _, _, _, rfl, F₁, rfl, rfl, rfl, by simp⟩
      | true =>
        refine ite_tt ?_
        repeat walk_at "ast"
        refine slice_tail .none (.int _ _) hyl (fun h₂ t₂ k₂ hk₂ => ?_) rfl (fun _ => rfl)
        have F₂ := F₁.keeps hk₂
        repeat walk_at "ast"
        refine PySem.P.eq_str ?_
        repeat walk_at "ast"
        have hsl : (Txt.slice ⟨yo.toArray⟩ none (some 1)).cps.toList = yo.take 1 := slice_to ⟨yo.toArray⟩ 1
        have hdot : (Str.ofString ".").cps.toList = [46] := by decide
        rw [hsl, hdot]
        by_cases hd : yo.take 1 = [46]
        · rw [hd]
          refine ite_tt ?_
          repeat walk_at "ast"
          refine slice_tail (.int _ _) .none hxl (fun h₃ t₃ k₃ hk₃ => ?_) rfl (fun _ => rfl)
          have F₃ := F₂.keeps hk₃
          repeat walk_at "ast"
          refine PySem.P.ne_str ?_
          repeat walk_at "ast"
          have hsl : (Txt.slice ⟨xo.toArray⟩ (some (-1)) none).cps.toList = xo.drop (xo.length - 1) := slice_last ⟨xo.toArray⟩
          have hnl : (Str.ofString "\n").cps.toList = [10] := by decide
          rw [hsl, hnl]
          by_cases hn : xo.drop (xo.length - 1) = [10]
          · rw [hn]
            refine ite_ff ?_
            refine ite_ff ?_
            repeat walk_at "ast"
            exact ⟨rfl, _, _, _, _, _, rfl, F₃, rfl, rfl, rfl, by simp⟩
          · have hb : (xo.drop (xo.length - 1) != [10]) = true := by simpa using hn
            rw [hb]
            refine ite_tt ?_
            repeat walk_at "ast"
            refine ite_tt ?_
            repeat walk_at "ast"
            refine slice_tail (.int _ _) .none hyl (fun h₄ t₄ k₄ hk₄ => ?_) rfl (fun _ => rfl)
            have F₄ := F₃.keeps hk₄
            refine stL e F₄ (by rfl) fun h₅ F₅ _ => ?_
            repeat walk_at "ast"
            refine ⟨rfl, _, _, _, _, _, rfl, F₅, rfl, rfl, rfl, ?_⟩
            rw [if_pos ⟨rfl, rfl, hn⟩]
            exact slice_from ⟨yo.toArray⟩ 1
        · have hb : (yo.take 1 == [46]) = false := by simpa using hd
          rw [hb]
          refine ite_ff ?_
          refine ite_ff ?_
          repeat walk_at "ast"
          exact ⟨rfl, _, _, _, _, _, rfl, F₂, rfl, rfl, rfl, by simp [hd]⟩
    cases xe with
    | false =>
      refine ite_ff ?_
      refine ite_ff ?_
      exact second _ (by simp)
    | true =>
      refine ite_tt ?_
      repeat walk_at "ast"
      cases yb with
      | false =>
        refine ite_ff ?_
        refine ite_ff ?_
        exact second _ (by simp)
      | true =>
        refine ite_tt ?_
        repeat walk_at "ast"
        refine ite_tt ?_
        repeat walk_at "ast"
        refine slice_tail (.int _ _) .none hyl (fun h₄ t₄ k₄ hk₄ => ?_) rfl (fun _ => rfl)
        have F₄ := F₁.keeps hk₄
        refine stL e F₄ (by rfl) fun h₅ F₅ _ => ?_
        repeat walk_at "ast"
        refine ⟨rfl, _, _, _, _, _, rfl, F₅, rfl, rfl, rfl, ?_⟩
        rw [if_pos ⟨rfl, rfl⟩]
        exact slice_from ⟨yo.toArray⟩ 2
  · obtain ⟨rfl, z, t, h', k, m', rfl, F', hm, hml, hmr, hz⟩ := hP
    dsimp only
    repeat walk_at "ast"
    have hzl : z.length ≤ 1000 := by
      have : z.length = z.cps.toList.length := rfl
      rw [this, hz]
      split
      · rw [List.length_drop]; omega
      · split
        · rw [List.length_drop]; omega
        · omega
    refine PyProof.Rows.add_str (fun t' tk => ?_) (by show xo.toArray.size + _ ≤ _; rw [List.size_toArray, sizeLine_eq]; omega)
    repeat walk_at "ast"
    refine ⟨by show 4 ≤ sizeLine; rw [sizeLine_eq]; decide, ?_⟩
    refine h _ _ _ ⟨_, t', 0, rfl, ?_⟩ fun b o e => Heap.get?_push_of_some _ (F'.keep b o e)
    rw [Heap.get?_push_size _ rfl]
    have e1 : (⟨xo.toArray⟩ : Str) ++ z = ⟨(joined (xo, xb, xe, xd) (yo, yb, ye, yd)).1.toArray⟩ := by
      apply Str.ext'
      apply Array.toList_inj.mp
      rw [Str.cps_append, Array.toList_append, hz]
      rfl
    rw [e1]
    rfl
theorem joined_len (x y : Word) : (joined x y).1.length ≤ x.1.length + y.1.length := by
  unfold joined
  dsimp only
  rw [List.length_append]
  split
  · rw [List.length_drop]; omega
  · split
    · rw [List.length_drop]; omega
    · omega

theorem call_joined {prog : Program} {w : World} {A : Around} {E : Value → Shared → Prop} {s : Shared} {mg mb : Str → Option Value} {l r : Value} {x y : Word} {Q : Value → Shared → Prop} {n : Nat}
    (hA : AOk A n) (hn : n ≤ 100) (B : Base w mg mb s.heap) (hl : WordAt s.heap l x) (hr : WordAt s.heap r y) (hx : x.1.length ≤ 1000) (hy : y.1.length ≤ 1000)
    (h : ∀ v s', WordAt s'.heap v (joined x y) → Keeps s s' → Q v s') : wpAny (model prog w) A (call (.ref 102) [l, r]) Q E s := by
  refine call_fd (fd := fdOf 16 .none (.str "law_nb0038_01" 396) (.ref 101)) (body := bodyOf (stmtAt 16)) (binds := [((Str.ofString "left"), l), ((Str.ofString "right"), r)]) hA hn B (fn_joined _) rfl (by kernel_rfl) (.of_eq (by rfl)) (by decide) ?_ rfl rfl rfl rfl rfl ?_
  · intro x hx
    rcases List.mem_cons.mp hx with rfl | hx
    · rfl
    · rw [List.mem_singleton.mp hx]; rfl
  · intro env h₁ E' e F _
    exact body_joined e B F hl hr hx hy fun v h' k hv hk => h v _ hv ⟨h', k, rfl, hk⟩

end Mine

end

section
namespace Mine
open PySem PySem.W PySem.Calls PyProof.Rows
set_option maxRecDepth 100000
theorem g_twin_re_1 (P : Params) : nsIn (hd.heap_39 P) mainGlobals (Str.ofString "_twin_re_1") = some (some (.ref 36)) := by kernel_rfl
theorem g_twin_re_2 (P : Params) : nsIn (hd.heap_39 P) mainGlobals (Str.ofString "_twin_re_2") = some (some (.ref 41)) := by kernel_rfl
theorem g_twin_re_3 (P : Params) : nsIn (hd.heap_39 P) mainGlobals (Str.ofString "_twin_re_3") = some (some (.ref 46)) := by kernel_rfl
theorem g_CRLF (P : Params) : nsIn (hd.heap_39 P) mainGlobals (Str.ofString "CRLF") = some (some (.str (Str.ofString "\r\n") 358)) := by kernel_rfl
theorem g_quotedata (P : Params) : nsIn (hd.heap_39 P) mainGlobals (Str.ofString "quotedata") = some (some (.ref 53)) := by kernel_rfl
theorem g_quote_periods (P : Params) : nsIn (hd.heap_39 P) mainGlobals (Str.ofString "_quote_periods") = some (some (.ref 60)) := by kernel_rfl
theorem g_fix_eols (P : Params) : nsIn (hd.heap_39 P) mainGlobals (Str.ofString "_fix_eols") = some (some (.ref 67)) := by kernel_rfl
theorem g_initial_missing (P : Params) : nsIn (hd.heap_39 P) mainGlobals (Str.ofString "_initial_missing") = some (some (.ref 68)) := by kernel_rfl
theorem g_reduce (P : Params) : nsIn (hd.heap_39 P) mainGlobals (Str.ofString "reduce") = some (some (.ref 76)) := by kernel_rfl
theorem g_law_text (P : Params) : nsIn (hd.heap_39 P) mainGlobals (Str.ofString "_law_text") = some (some (.ref 83)) := by kernel_rfl
theorem g_law_word (P : Params) : nsIn (hd.heap_39 P) mainGlobals (Str.ofString "_law_word") = some (some (.ref 88)) := by kernel_rfl
theorem g_law_single (P : Params) : nsIn (hd.heap_39 P) mainGlobals (Str.ofString "_law_single") = some (some (.ref 95)) := by kernel_rfl
theorem g_law_joined (P : Params) : nsIn (hd.heap_39 P) mainGlobals (Str.ofString "_law_joined") = some (some (.ref 102)) := by kernel_rfl
theorem g_law_put_ahead (P : Params) : nsIn (hd.heap_39 P) mainGlobals (Str.ofString "_law_put_ahead") = some (some (.ref 109)) := by kernel_rfl
theorem gn_bytes (P : Params) : nsIn (hd.heap_39 P) mainGlobals (Str.ofString "bytes") = some none := by kernel_rfl
theorem b_bytes : bootBuiltins (Str.ofString "bytes") = some (.type "bytes") := by kernel_rfl
theorem gn_ord (P : Params) : nsIn (hd.heap_39 P) mainGlobals (Str.ofString "ord") = some none := by kernel_rfl
theorem b_ord : bootBuiltins (Str.ofString "ord") = some (.builtin "ord") := by kernel_rfl
theorem gn_chr (P : Params) : nsIn (hd.heap_39 P) mainGlobals (Str.ofString "chr") = some none := by kernel_rfl
theorem b_chr : bootBuiltins (Str.ofString "chr") = some (.builtin "chr") := by kernel_rfl
theorem gn_enumerate (P : Params) : nsIn (hd.heap_39 P) mainGlobals (Str.ofString "enumerate") = some none := by kernel_rfl
theorem b_enumerate : bootBuiltins (Str.ofString "enumerate") = some (.type "enumerate") := by kernel_rfl
theorem gn_sum (P : Params) : nsIn (hd.heap_39 P) mainGlobals (Str.ofString "sum") = some none := by kernel_rfl
theorem b_sum : bootBuiltins (Str.ofString "sum") = some (.builtin "sum") := by kernel_rfl
theorem gn_len (P : Params) : nsIn (hd.heap_39 P) mainGlobals (Str.ofString "len") = some none := by kernel_rfl
theorem b_len : bootBuiltins (Str.ofString "len") = some (.builtin "len") := by kernel_rfl
theorem gn_range (P : Params) : nsIn (hd.heap_39 P) mainGlobals (Str.ofString "range") = some none := by kernel_rfl
theorem b_range : bootBuiltins (Str.ofString "range") = some (.type "range") := by kernel_rfl
theorem gn_iter (P : Params) : nsIn (hd.heap_39 P) mainGlobals (Str.ofString "iter") = some none := by kernel_rfl
theorem b_iter : bootBuiltins (Str.ofString "iter") = some (.builtin "iter") := by kernel_rfl
theorem gn_next (P : Params) : nsIn (hd.heap_39 P) mainGlobals (Str.ofString "next") = some none := by kernel_rfl
theorem b_next : bootBuiltins (Str.ofString "next") = some (.builtin "next") := by kernel_rfl
theorem fn_quotedata (P : Params) : (hd.heap_39 P).lookup 53 = some ⟨.type "function", none, .func (fdOf 6 .none (.str (Str.ofString "cpy313.smtplib") 282) (.ref 52)), #[]⟩ := by kernel_rfl
theorem cd_quotedata (P : Params) : codeIn (hd.heap_39 P) (fdOf 6 .none (.str (Str.ofString "cpy313.smtplib") 282) (.ref 52)).code (fdOf 6 .none (.str (Str.ofString "cpy313.smtplib") 282) (.ref 52)).qualname = true := by kernel_rfl
theorem fn_quote_periods (P : Params) : (hd.heap_39 P).lookup 60 = some ⟨.type "function", none, .func (fdOf 7 .none (.str (Str.ofString "cpy313.smtplib") 282) (.ref 59)), #[]⟩ := by kernel_rfl
theorem cd_quote_periods (P : Params) : codeIn (hd.heap_39 P) (fdOf 7 .none (.str (Str.ofString "cpy313.smtplib") 282) (.ref 59)).code (fdOf 7 .none (.str (Str.ofString "cpy313.smtplib") 282) (.ref 59)).qualname = true := by kernel_rfl
theorem fn_fix_eols (P : Params) : (hd.heap_39 P).lookup 67 = some ⟨.type "function", none, .func (fdOf 8 .none (.str (Str.ofString "cpy313.smtplib") 282) (.ref 66)), #[]⟩ := by kernel_rfl
theorem cd_fix_eols (P : Params) : codeIn (hd.heap_39 P) (fdOf 8 .none (.str (Str.ofString "cpy313.smtplib") 282) (.ref 66)).code (fdOf 8 .none (.str (Str.ofString "cpy313.smtplib") 282) (.ref 66)).qualname = true := by kernel_rfl
theorem fn_reduce (P : Params) : (hd.heap_39 P).lookup 76 = some ⟨.type "function", none, .func (fdOf 11 (.ref 69) (.str (Str.ofString "cpy313.functools") 381) (.ref 75)), #[]⟩ := by kernel_rfl
theorem cd_reduce (P : Params) : codeIn (hd.heap_39 P) (fdOf 11 (.ref 69) (.str (Str.ofString "cpy313.functools") 381) (.ref 75)).code (fdOf 11 (.ref 69) (.str (Str.ofString "cpy313.functools") 381) (.ref 75)).qualname = true := by kernel_rfl
theorem fn_text (P : Params) : (hd.heap_39 P).lookup 83 = some ⟨.type "function", none, .func (fdOf 13 .none (.str (Str.ofString "law_nb0038_01") 396) (.ref 82)), #[]⟩ := by kernel_rfl
theorem cd_text (P : Params) : codeIn (hd.heap_39 P) (fdOf 13 .none (.str (Str.ofString "law_nb0038_01") 396) (.ref 82)).code (fdOf 13 .none (.str (Str.ofString "law_nb0038_01") 396) (.ref 82)).qualname = true := by kernel_rfl
theorem fn_word (P : Params) : (hd.heap_39 P).lookup 88 = some ⟨.type "function", none, .func (fdOf 14 .none (.str (Str.ofString "law_nb0038_01") 396) (.ref 87)), #[]⟩ := by kernel_rfl
theorem cd_word (P : Params) : codeIn (hd.heap_39 P) (fdOf 14 .none (.str (Str.ofString "law_nb0038_01") 396) (.ref 87)).code (fdOf 14 .none (.str (Str.ofString "law_nb0038_01") 396) (.ref 87)).qualname = true := by kernel_rfl
theorem fn_single (P : Params) : (hd.heap_39 P).lookup 95 = some ⟨.type "function", none, .func (fdOf 15 .none (.str (Str.ofString "law_nb0038_01") 396) (.ref 94)), #[]⟩ := by kernel_rfl
theorem cd_single (P : Params) : codeIn (hd.heap_39 P) (fdOf 15 .none (.str (Str.ofString "law_nb0038_01") 396) (.ref 94)).code (fdOf 15 .none (.str (Str.ofString "law_nb0038_01") 396) (.ref 94)).qualname = true := by kernel_rfl
theorem fn_put (P : Params) : (hd.heap_39 P).lookup 109 = some ⟨.type "function", none, .func (fdOf 17 .none (.str (Str.ofString "law_nb0038_01") 396) (.ref 108)), #[]⟩ := by kernel_rfl
theorem cd_put (P : Params) : codeIn (hd.heap_39 P) (fdOf 17 .none (.str (Str.ofString "law_nb0038_01") 396) (.ref 108)).code (fdOf 17 .none (.str (Str.ofString "law_nb0038_01") 396) (.ref 108)).qualname = true := by kernel_rfl
end Mine

end

section
namespace Mine
open PySem PySem.W PySem.Calls PyProof.Rows
set_option maxRecDepth 100000
local macro_rules | `(tactic| walk_at "gname") => `(tactic| first
  | with_reducible exact g_law_joined _
  | with_reducible exact g_law_single _
  | with_reducible exact g_law_word _
  | with_reducible exact g_law_text _
  | with_reducible exact g_law_put_ahead _
  | with_reducible exact g_reduce _
  | with_reducible exact g_fix_eols _
  | with_reducible exact g_quote_periods _
  | with_reducible exact g_quotedata _
  | with_reducible exact g_CRLF _
  | with_reducible exact g_twin_re_1 _
  | with_reducible exact g_twin_re_2 _
  | with_reducible exact g_twin_re_3 _
  | with_reducible exact g_initial_missing _)
local macro_rules | `(tactic| walk_at "gnone") => `(tactic| first
  | with_reducible exact gn_range _
  | with_reducible exact gn_len _
  | with_reducible exact gn_ord _
  | with_reducible exact gn_chr _
  | with_reducible exact gn_bytes _
  | with_reducible exact gn_sum _
  | with_reducible exact gn_iter _
  | with_reducible exact gn_next _
  | with_reducible exact gn_enumerate _)
local macro_rules | `(tactic| walk_at "bname") => `(tactic| first
  | with_reducible exact b_range
  | with_reducible exact b_len
  | with_reducible exact b_ord
  | with_reducible exact b_chr
  | with_reducible exact b_bytes
  | with_reducible exact b_sum
  | with_reducible exact b_iter
  | with_reducible exact b_next
  | with_reducible exact b_enumerate)
local macro_rules | `(tactic| walk_at "ast") => `(tactic| first
  | with_reducible refine wpAny_execs_cons ?_
  | with_reducible refine wpAny_execs_nil ?_
  | ((with_reducible refine wpAny_Assign_Name ?_ ?p1); (case p1 => rfl))
  | with_reducible refine wpAny_If ?_
  | with_reducible refine wpAny_Return_some ?_
  | with_reducible refine isTrue_and ?_
  | with_reducible refine isTrue_and_nil ?_
  | with_reducible refine wpAny_isTrue_Compare1 ?_
  | with_reducible refine wpAny_Compare1 ?_
  | with_reducible refine wpAny_IfExp ?_
  | ((with_reducible show wpAny _ _ (PySem.isTrue (Expr.Subscript _ _ _) _ _) _ _ _); refine isTrue_plain ?_ (by rfl))
  | with_reducible refine Subscript_ ?_
  | with_reducible refine wpAny_Constant_int ?_
  | with_reducible refine wpAny_Constant_str ?_
  | with_reducible refine wpAny_Constant_bool ?_
  | with_reducible refine wpAny_Constant_none ?_
  | with_reducible refine wpAny_Slice ?_
  | with_reducible refine evalPart_none_step ?_
  | with_reducible refine evalPart_some_step ?_
  | with_reducible refine wpAny_UnaryOp ?_
  | with_reducible refine neg_int ?_
  | with_reducible refine wpAny_BinOp ?_
  | with_reducible refine wpAny_Tuple ?_
  | ((with_reducible show wpAny _ _ (spliced (backTo _ (starEach (_ :: _) _))) _ _ _); refine wpAny_items_cons ?_)
  | ((with_reducible show wpAny _ _ (spliced (backTo _ (starEach [] _))) _ _ _); refine wpAny_items_nil ?_)
  | with_reducible refine wpAny_truthy_bool ?_
  | ((with_reducible show wpAny _ _ (eval (Expr.Call (Expr.Name _ _) _ [] _) _) _ _ _); refine Call_ ?_)
  | ((with_reducible show wpAny _ _ (callWith _ (Value.builtin _) [] (backTo _ (starEach (_ :: _) _)) []) _ _ _); refine PyProof.Rows.callWith_builtin1 ?_)
  | ((with_reducible show wpAny _ _ (eval (Expr.Name _ _) _) _ _ _); refine nmL (by assumption) (by assumption) (by rfl) (by first | assumption | rfl) ?_ (by decide))
  | ((with_reducible show wpAny _ _ (eval (Expr.Name _ _) _) _ _ _); refine nmG (by assumption) (Base.keeps (by assumption) (Fr.keep (by assumption))) (by rfl) (by walk_at "gname") ?_ (by decide))
  | ((with_reducible show wpAny _ _ (eval (Expr.Name _ _) _) _ _ _); refine nmB (by assumption) (Base.keeps (by assumption) (Fr.keep (by assumption))) (by rfl) (by walk_at "gnone") (by walk_at "bname") (by decide) ?_ (by decide))
  | ((with_reducible show wpAny _ _ (subscriptTail _ _ (Value.ref _) (Value.int _ _)) _ _ _); refine word_item (by assumption) (by assumption) (by rfl) (by rfl) (by decide) (by decide) ?_ (by rfl)))

theorem cw_fn {prog : Program} {w : World} {A : Around} {E : Value → Shared → Prop} {s : Shared} {env : Env} {a : Addr} {fd : FuncData} {od : Option Addr} {oc : Value} {osl : Array (Option Value)} {pos : Pos} {e : Expr} {rest : List Expr} {Q : Value → Shared → Prop}
    (hK : (hd.heap_39 w.params).lookup a = some ⟨oc, od, .func fd, osl⟩)
    (h : wpAny (model prog w) A (spliced (backTo pos (starEach (e :: rest) env))) (fun vs s₁ => (hd.heap_39 w.params).In s₁.heap ∧ wpAny (model prog w) A (call (.ref a) vs) Q E s₁) E s)
    (he : starEach (e :: rest) env = (false, eval e env) :: starEach rest env := by rfl) :
    wpAny (model prog w) A (callWith pos (.ref a) [] (backTo pos (starEach (e :: rest) env)) []) Q E s :=
  callWith_def (o := ⟨oc, od, .func fd, osl⟩) rfl (wpAny_mono h (fun _ _ x => ⟨x.1 _ _ hK, x.2⟩) fun _ _ x => x) he

set_option maxHeartbeats 1000000 in
theorem call_put {prog : Program} {w : World} {A : Around} {E : Value → Shared → Prop} {s : Shared} {mg mb : Str → Option Value} {l r : Value} {x y : Word} {Q : Value → Shared → Prop} {n : Nat}
    (hA : AOk A n) (hn : n ≤ 90) (B : Base w mg mb s.heap) (hl : WordAt s.heap l x) (hr : WordAt s.heap r y) (hx : x.1.length ≤ 1000) (hy : y.1.length ≤ 1000)
    (h : ∀ v s', WordAt s'.heap v (joined y x) → Keeps s s' → Q v s') : wpAny (model prog w) A (call (.ref 109) [l, r]) Q E s := by
  refine call_fd (body := bodyOf (stmtAt 17)) (binds := [((Str.ofString "right"), l), ((Str.ofString "left"), r)]) hA (by omega) B (fn_put _) rfl (cd_put _) (.of_eq (by rfl)) (by decide) ?_ rfl rfl rfl rfl rfl ?_
  · intro x hx
    rcases List.mem_cons.mp hx with rfl | hx
    · rfl
    · rw [List.mem_singleton.mp hx]; rfl
  · intro env h₁ E' e F hA'
    have e : EnvOk env s.heap.objs.size (scopeOf (stmtAt 17)) := e
    refine wpAny_execs_cons ?_
    repeat walk_at "ast"
    refine cw_fn (fn_joined _) ?_
    repeat walk_at "ast"
    refine ⟨(B.keeps F.keep).k, ?_⟩
    refine call_joined hA' (by omega) (B.keeps F.keep) (hr.keeps F.keep) (hl.keeps F.keep) hy hx fun v s' hv hk => ?_
    obtain ⟨h', k, rfl, hk⟩ := hk
    exact h v _ hv ⟨h', k, rfl, fun b o e => hk b o (F.keep b o e)⟩
end Mine

end

section
namespace Mine
open PySem PySem.W PySem.Calls PyProof.Rows
set_option maxRecDepth 100000
local macro_rules | `(tactic| walk_at "gname") => `(tactic| first
  | with_reducible exact g_law_joined _
  | with_reducible exact g_law_single _
  | with_reducible exact g_law_word _
  | with_reducible exact g_law_text _
  | with_reducible exact g_law_put_ahead _
  | with_reducible exact g_reduce _
  | with_reducible exact g_fix_eols _
  | with_reducible exact g_quote_periods _
  | with_reducible exact g_quotedata _
  | with_reducible exact g_CRLF _
  | with_reducible exact g_twin_re_1 _
  | with_reducible exact g_twin_re_2 _
  | with_reducible exact g_twin_re_3 _
  | with_reducible exact g_initial_missing _)
local macro_rules | `(tactic| walk_at "gnone") => `(tactic| first
  | with_reducible exact gn_range _
  | with_reducible exact gn_len _
  | with_reducible exact gn_ord _
  | with_reducible exact gn_chr _
  | with_reducible exact gn_bytes _
  | with_reducible exact gn_sum _
  | with_reducible exact gn_iter _
  | with_reducible exact gn_next _
  | with_reducible exact gn_enumerate _)
local macro_rules | `(tactic| walk_at "bname") => `(tactic| first
  | with_reducible exact b_range
  | with_reducible exact b_len
  | with_reducible exact b_ord
  | with_reducible exact b_chr
  | with_reducible exact b_bytes
  | with_reducible exact b_sum
  | with_reducible exact b_iter
  | with_reducible exact b_next
  | with_reducible exact b_enumerate)
local macro_rules | `(tactic| walk_at "ast") => `(tactic| first
  | with_reducible refine wpAny_execs_cons ?_
  | with_reducible refine wpAny_execs_nil ?_
  | ((with_reducible refine wpAny_Assign_Name ?_ ?p1); (case p1 => rfl))
  | with_reducible refine wpAny_If ?_
  | with_reducible refine wpAny_Return_some ?_
  | with_reducible refine isTrue_and ?_
  | with_reducible refine isTrue_and_nil ?_
  | with_reducible refine wpAny_isTrue_Compare1 ?_
  | with_reducible refine wpAny_Compare1 ?_
  | with_reducible refine wpAny_IfExp ?_
  | ((with_reducible show wpAny _ _ (PySem.isTrue (Expr.Subscript _ _ _) _ _) _ _ _); refine isTrue_plain ?_ (by rfl))
  | with_reducible refine Subscript_ ?_
  | with_reducible refine wpAny_Constant_int ?_
  | with_reducible refine wpAny_Constant_str ?_
  | with_reducible refine wpAny_Constant_bool ?_
  | with_reducible refine wpAny_Constant_none ?_
  | with_reducible refine wpAny_Slice ?_
  | with_reducible refine evalPart_none_step ?_
  | with_reducible refine evalPart_some_step ?_
  | with_reducible refine wpAny_UnaryOp ?_
  | with_reducible refine neg_int ?_
  | with_reducible refine wpAny_BinOp ?_
  | with_reducible refine wpAny_Tuple ?_
  | ((with_reducible show wpAny _ _ (spliced (backTo _ (starEach (_ :: _) _))) _ _ _); refine wpAny_items_cons ?_)
  | ((with_reducible show wpAny _ _ (spliced (backTo _ (starEach [] _))) _ _ _); refine wpAny_items_nil ?_)
  | with_reducible refine wpAny_truthy_bool ?_
  | ((with_reducible show wpAny _ _ (eval (Expr.Call (Expr.Name _ _) _ [] _) _) _ _ _); refine Call_ ?_)
  | ((with_reducible show wpAny _ _ (callWith _ (Value.builtin _) [] (backTo _ (starEach (_ :: _) _)) []) _ _ _); refine PyProof.Rows.callWith_builtin1 ?_)
  | ((with_reducible show wpAny _ _ (eval (Expr.Name _ _) _) _ _ _); refine nmL (by assumption) (by assumption) (by rfl) (by first | assumption | rfl) ?_ (by decide))
  | ((with_reducible show wpAny _ _ (eval (Expr.Name _ _) _) _ _ _); refine nmG (by assumption) (Base.keeps (by assumption) (Fr.keep (by assumption))) (by rfl) (by walk_at "gname") ?_ (by decide))
  | ((with_reducible show wpAny _ _ (eval (Expr.Name _ _) _) _ _ _); refine nmB (by assumption) (Base.keeps (by assumption) (Fr.keep (by assumption))) (by rfl) (by walk_at "gnone") (by walk_at "bname") (by decide) ?_ (by decide))
  | ((with_reducible show wpAny _ _ (subscriptTail _ _ (Value.ref _) (Value.int _ _)) _ _ _); refine word_item (by assumption) (by assumption) (by rfl) (by rfl) (by decide) (by decide) ?_ (by rfl)))

theorem plainAttrs_pat : PlainAttrs "re.Pattern" :=
  ⟨⟨"object.__getattribute__", by rw [typeLookup_type, builtinLookup_eq_fast]; kernel_rfl, by decide +kernel⟩, by rw [typeLookup_type, builtinLookup_eq_fast]; kernel_rfl⟩

theorem pat1 {P : Params} {h : Heap} (k : (hd.heap_39 P).In h) : PatAt h 36 code1 0 :=
  ⟨_, _, _, _, _, _, k 36 _ rfl, rfl, rfl, rfl, rfl, rfl, rfl, k 35 _ rfl, rfl, by decide +kernel⟩
theorem pat2 {P : Params} {h : Heap} (k : (hd.heap_39 P).In h) : PatAt h 41 code1 1 :=
  ⟨_, _, _, _, _, _, k 41 _ rfl, rfl, rfl, rfl, rfl, rfl, rfl, k 40 _ rfl, rfl, by decide +kernel⟩
theorem pat3 {P : Params} {h : Heap} (k : (hd.heap_39 P).In h) : PatAt h 46 code3 0 :=
  ⟨_, _, _, _, _, _, k 46 _ rfl, rfl, rfl, rfl, rfl, rfl, rfl, k 45 _ rfl, rfl, by decide +kernel⟩

theorem pat_sub {prog : Program} {w : World} {A : Around} {E : Value → Shared → Prop} {s : Shared} {env : Env} {x : Str} {np apos pos : Pos} {e₁ e₂ : Expr} {Q : Value → Shared → Prop}
    (h : wpAny (model prog w) A (eval (.Name x np) env) (fun ov s₁ => ∃ a code kind, ov = .ref a ∧ PatAt s₁.heap a code kind ∧
      wpAny (model prog w) A (spliced (backTo pos (starEach [e₁, e₂] env))) (fun vs s₂ => wpAny (model prog w) A (call (.builtin "re.Pattern.sub") (ov :: vs)) Q E s₂) E s₁) E s)
    (hs : starEach [e₁, e₂] env = [(false, eval e₁ env), (false, eval e₂ env)]) (hs2 : starEach [e₂] env = [(false, eval e₂ env)]) (hline : (apos.endLine == pos.line) = true)
    (hbase : attributeBase (.Name x np) (Str.ofString "sub") env (eval (.Name x np) env) = eval (.Name x np) env) :
    wpAny (model prog w) A (eval (.Call (.Attribute (.Name x np) (Str.ofString "sub") apos) [e₁, e₂] [] pos) env) Q E s := by
  refine wpAny_Call_method hbase (by rw [hs]; rfl) hline plainAttrs_pat slot_sub type_sub (wpAny_mono h (fun ov s₁ hv => ?_) fun _ _ x => x)
  obtain ⟨a, code, kind, rfl, hP, hc⟩ := hv
  obtain ⟨o, oc, fs, cs, ac, n, h1, h2, h3, _⟩ := hP.has
  refine ⟨⟨o, h1, h2⟩, fun a' e => ?_, ?_⟩
  · cases e; exact ⟨o, h1, h3⟩
  · exact callWith_method1 hc (by rw [hs, hs2]) (by rw [hs2]; rfl)

set_option maxHeartbeats 1000000 in
theorem call_fix {prog : Program} {w : World} {A : Around} {E : Value → Shared → Prop} {s : Shared} {mg mb : Str → Option Value} {x : Str} {t : Tok} {Q : Value → Shared → Prop} {n : Nat}
    (hA : AOk A n) (hn : n ≤ 90) (B : Base w mg mb s.heap) (hlen : x.cps.size ≤ 1000) (hpos : 0 < x.cps.size)
    (h : ∀ y t s', y.cps.toList = fixE x.cps.toList → Keeps s s' → Q (.str y t) s') : wpAny (model prog w) A (call (.ref 67) [.str x t]) Q E s := by
  refine call_fd (body := bodyOf (stmtAt 8)) (binds := [((Str.ofString "data"), .str x t)]) hA (by omega) B (fn_fix_eols _) rfl (cd_fix_eols _) (.of_eq (by rfl)) (by decide) ?_ rfl rfl rfl rfl rfl ?_
  · intro x hx
    rw [List.mem_singleton.mp hx]; rfl
  · intro env h₁ E' e F hA'
    have e : EnvOk env s.heap.objs.size (scopeOf (stmtAt 8)) := e
    refine wpAny_execs_cons ?_
    refine wpAny_Return_some ?_
    refine pat_sub ?_ rfl rfl rfl rfl
    repeat walk_at "ast"
    refine ⟨46, code3, 0, rfl, pat3 (B.keeps F.keep).k, ?_⟩
    repeat walk_at "ast"
    have e13 : (Str.ofString "\r\n") = ⟨#[13, 10]⟩ := by decide
    rw [e13]
    refine sub_ends (pat3 (B.keeps F.keep).k) (by omega) hpos fun y t s' hy hk => ?_
    obtain ⟨h', k, rfl, hk⟩ := hk
    exact h y t _ hy ⟨h', k, rfl, fun b o e => hk b o (F.keep b o e)⟩

theorem fixE_len (x : List Nat) : (fixE x).length ≤ 2 * x.length := by
  induction x using fixE.induct with
  | case1 => simp [fixE]
  | case2 r ih => rw [fixE_crlf]; simp only [List.length_cons]; omega
  | case3 c r hc hor ih =>
    rw [fixE]
    · rw [if_pos hor]; simp only [List.length_cons]; omega
    · exact hc
  | case4 c r hc hor ih =>
    rw [fixE]
    · rw [if_neg hor]; simp only [List.length_cons]; omega
    · exact hc
theorem fixE_256 (x : List Nat) (h : ∀ c ∈ x, c < 256) : ∀ c ∈ fixE x, c < 256 := by
  induction x using fixE.induct with
  | case1 => simp [fixE]
  | case2 r ih =>
    rw [fixE_crlf]
    intro c hc
    rcases List.mem_cons.mp hc with rfl | hc
    · decide
    · rcases List.mem_cons.mp hc with rfl | hc
      · decide
      · exact ih (fun d hd => h d (by simp [hd])) c hc
  | case3 c r hc hor ih =>
    rw [fixE]
    · rw [if_pos hor]
      intro d hd
      rcases List.mem_cons.mp hd with rfl | hd
      · decide
      · rcases List.mem_cons.mp hd with rfl | hd
        · decide
        · exact ih (fun d hd => h d (by simp [hd])) d hd
    · exact hc
  | case4 c r hc hor ih =>
    rw [fixE]
    · rw [if_neg hor]
      intro d hd
      rcases List.mem_cons.mp hd with rfl | hd
      · exact h _ (by simp)
      · exact ih (fun d hd => h d (by simp [hd])) d hd
    · exact hc

set_option maxHeartbeats 1000000 in
theorem call_quote {prog : Program} {w : World} {A : Around} {E : Value → Shared → Prop} {s : Shared} {mg mb : Str → Option Value} {x : Str} {t : Tok} {Q : Value → Shared → Prop} {n : Nat}
    (hA : AOk A n) (hn : n ≤ 90) (B : Base w mg mb s.heap) (hlen : x.cps.size ≤ 1000) (hpos : 0 < x.cps.size) (h256 : ∀ c ∈ x.cps.toList, c < 256)
    (h : ∀ y t s', y.cps.toList = dots true (fixE x.cps.toList) → Keeps s s' → Q (.str y t) s') : wpAny (model prog w) A (call (.ref 53) [.str x t]) Q E s := by
  refine call_fd (body := bodyOf (stmtAt 6)) (binds := [((Str.ofString "data"), .str x t)]) hA (by omega) B (fn_quotedata _) rfl (cd_quotedata _) (.of_eq (by rfl)) (by decide) ?_ rfl rfl rfl rfl rfl ?_
  · intro x hx
    rw [List.mem_singleton.mp hx]; rfl
  · intro env h₁ E' e F hA'
    have e : EnvOk env s.heap.objs.size (scopeOf (stmtAt 6)) := e
    refine wpAny_execs_cons ?_
    refine wpAny_Return_some ?_
    refine pat_sub ?_ rfl rfl rfl rfl
    repeat walk_at "ast"
    refine ⟨36, code1, 0, rfl, pat1 (B.keeps F.keep).k, ?_⟩
    repeat walk_at "ast"
    refine pat_sub ?_ rfl rfl rfl rfl
    repeat walk_at "ast"
    refine ⟨46, code3, 0, rfl, pat3 (B.keeps F.keep).k, ?_⟩
    repeat walk_at "ast"
    have e13 : (Str.ofString "\r\n") = ⟨#[13, 10]⟩ := by decide
    rw [e13]
    refine sub_ends (pat3 (B.keeps F.keep).k) (by omega) hpos fun y t s' hy hk => ?_
    obtain ⟨h', k, rfl, hk⟩ := hk
    have F' := F.keeps hk
    repeat walk_at "ast"
    have e46 : (Str.ofString "..") = ⟨#[46, 46]⟩ := by decide
    rw [e46]
    have hyl : y.cps.size ≤ 2 * x.cps.size := by
      have := fixE_len x.cps.toList
      rw [← hy] at this
      exact this
    have hyp : 0 < y.cps.size := by
      have h1 := fixE_ne_nil x.cps.toList (by intro e; have : x.cps.toList.length = 0 := by rw [e]; rfl
                                              have h2 : x.cps.toList.length = x.cps.size := rfl
                                              omega)
      rw [← hy] at h1
      exact Nat.pos_of_ne_zero fun e => h1 (List.length_eq_zero_iff.mp e)
    refine sub_dots (kind := 0) (text := y.cps) (.inl rfl) (fun c hc => fixE_256 _ h256 c (by rw [← hy]; exact Array.mem_def.mp hc)) (pat1 (B.keeps F'.keep).k) (by omega) hyp fun z t s' hz hk => ?_
    obtain ⟨h'', k', rfl, hk'⟩ := hk
    exact h ⟨z⟩ t _ (by rw [← hy]; exact hz) ⟨h'', k', rfl, fun b o e => hk' b o (F'.keep b o e)⟩

set_option maxHeartbeats 1000000 in
theorem call_periods {prog : Program} {w : World} {A : Around} {E : Value → Shared → Prop} {s : Shared} {mg mb : Str → Option Value} {x : Array Nat} {t : Tok} {Q : Value → Shared → Prop} {n : Nat}
    (hA : AOk A n) (hn : n ≤ 90) (B : Base w mg mb s.heap) (hlen : x.size ≤ 1000) (hpos : 0 < x.size) (h256 : ∀ c ∈ x, c < 256)
    (h : ∀ y t s', y.toList = dots true x.toList → Keeps s s' → Q (pv 1 y t) s') : wpAny (model prog w) A (call (.ref 60) [pv 1 x t]) Q E s := by
  refine call_fd (body := bodyOf (stmtAt 7)) (binds := [((Str.ofString "bindata"), pv 1 x t)]) hA (by omega) B (fn_quote_periods _) rfl (cd_quote_periods _) (.of_eq (by rfl)) (by decide) ?_ rfl rfl rfl rfl rfl ?_
  · intro x hx
    rw [List.mem_singleton.mp hx]; rfl
  · intro env h₁ E' e F hA'
    have e : EnvOk env s.heap.objs.size (scopeOf (stmtAt 7)) := e
    refine wpAny_execs_cons ?_
    refine wpAny_Return_some ?_
    refine pat_sub ?_ rfl rfl rfl rfl
    repeat walk_at "ast"
    refine ⟨41, code1, 1, rfl, pat2 (B.keeps F.keep).k, ?_⟩
    repeat walk_at "ast"
    refine PySem.W.Constant_bytes ?_
    repeat walk_at "ast"
    have e46 : ∀ t, Value.bytes [46, 46].toArray t = pv 1 #[46, 46] t := by intro t; unfold pv; rw [if_neg (by decide)]; congr 1; decide +kernel
    rw [e46]
    refine sub_dots (kind := 1) (.inr rfl) h256 (pat2 (B.keeps F.keep).k) (by omega) hpos fun z t s' hz hk => ?_
    obtain ⟨h'', k', rfl, hk'⟩ := hk
    exact h z t _ hz ⟨h'', k', rfl, fun b o e => hk' b o (F.keep b o e)⟩

end Mine

end

section
namespace Mine
open PySem PySem.W PySem.Calls PyProof.Rows
set_option maxRecDepth 100000
local macro_rules | `(tactic| walk_at "gname") => `(tactic| first
  | with_reducible exact g_law_joined _
  | with_reducible exact g_law_single _
  | with_reducible exact g_law_word _
  | with_reducible exact g_law_text _
  | with_reducible exact g_law_put_ahead _
  | with_reducible exact g_reduce _
  | with_reducible exact g_fix_eols _
  | with_reducible exact g_quote_periods _
  | with_reducible exact g_quotedata _
  | with_reducible exact g_CRLF _
  | with_reducible exact g_twin_re_1 _
  | with_reducible exact g_twin_re_2 _
  | with_reducible exact g_twin_re_3 _
  | with_reducible exact g_initial_missing _)
local macro_rules | `(tactic| walk_at "gnone") => `(tactic| first
  | with_reducible exact gn_range _
  | with_reducible exact gn_len _
  | with_reducible exact gn_ord _
  | with_reducible exact gn_chr _
  | with_reducible exact gn_bytes _
  | with_reducible exact gn_sum _
  | with_reducible exact gn_iter _
  | with_reducible exact gn_next _
  | with_reducible exact gn_enumerate _)
local macro_rules | `(tactic| walk_at "bname") => `(tactic| first
  | with_reducible exact b_range
  | with_reducible exact b_len
  | with_reducible exact b_ord
  | with_reducible exact b_chr
  | with_reducible exact b_bytes
  | with_reducible exact b_sum
  | with_reducible exact b_iter
  | with_reducible exact b_next
  | with_reducible exact b_enumerate)
local macro_rules | `(tactic| walk_at "ast") => `(tactic| first
  | with_reducible refine wpAny_execs_cons ?_
  | with_reducible refine wpAny_execs_nil ?_
  | ((with_reducible refine wpAny_Assign_Name ?_ ?p1); (case p1 => rfl))
  | with_reducible refine wpAny_If ?_
  | with_reducible refine wpAny_Return_some ?_
  | with_reducible refine isTrue_and ?_
  | with_reducible refine isTrue_and_nil ?_
  | with_reducible refine wpAny_isTrue_Compare1 ?_
  | with_reducible refine wpAny_Compare1 ?_
  | with_reducible refine wpAny_IfExp ?_
  | ((with_reducible show wpAny _ _ (PySem.isTrue (Expr.Subscript _ _ _) _ _) _ _ _); refine isTrue_plain ?_ (by rfl))
  | with_reducible refine Subscript_ ?_
  | with_reducible refine wpAny_Constant_int ?_
  | with_reducible refine wpAny_Constant_str ?_
  | with_reducible refine wpAny_Constant_bool ?_
  | with_reducible refine wpAny_Constant_none ?_
  | with_reducible refine wpAny_Slice ?_
  | with_reducible refine evalPart_none_step ?_
  | with_reducible refine evalPart_some_step ?_
  | with_reducible refine wpAny_UnaryOp ?_
  | with_reducible refine neg_int ?_
  | with_reducible refine wpAny_BinOp ?_
  | with_reducible refine wpAny_Tuple ?_
  | ((with_reducible show wpAny _ _ (spliced (backTo _ (starEach (_ :: _) _))) _ _ _); refine wpAny_items_cons ?_)
  | ((with_reducible show wpAny _ _ (spliced (backTo _ (starEach [] _))) _ _ _); refine wpAny_items_nil ?_)
  | with_reducible refine wpAny_truthy_bool ?_
  | with_reducible refine PySem.P.eq_str ?_
  | with_reducible refine PySem.P.ne_str ?_
  | with_reducible refine PySem.P.in_str ?_
  | ((with_reducible show wpAny _ _ (eval (Expr.Call (Expr.Name _ _) _ [] _) _) _ _ _); refine Call_ ?_)
  | ((with_reducible show wpAny _ _ (callWith _ (Value.builtin _) [] (backTo _ (starEach (_ :: _) _)) []) _ _ _); refine PyProof.Rows.callWith_builtin1 ?_)
  | ((with_reducible show wpAny _ _ (eval (Expr.Name _ _) _) _ _ _); refine nmL (by assumption) (by assumption) (by rfl) (by first | assumption | rfl) ?_ (by decide))
  | ((with_reducible show wpAny _ _ (eval (Expr.Name _ _) _) _ _ _); refine nmG (by assumption) (Base.keeps (by assumption) (Fr.keep (by assumption))) (by rfl) (by walk_at "gname") ?_ (by decide))
  | ((with_reducible show wpAny _ _ (eval (Expr.Name _ _) _) _ _ _); refine nmB (by assumption) (Base.keeps (by assumption) (Fr.keep (by assumption))) (by rfl) (by walk_at "gnone") (by walk_at "bname") (by decide) ?_ (by decide))
  | ((with_reducible show wpAny _ _ (subscriptTail _ _ (Value.ref _) (Value.int _ _)) _ _ _); refine word_item (by assumption) (by assumption) (by rfl) (by rfl) (by decide) (by decide) ?_ (by rfl)))


theorem ite_T {c : Bool} {P Q : Prop} (hc : c = true) (h : P) : if c = true then P else Q := by subst hc; exact h
theorem ite_F {c : Bool} {P Q : Prop} (hc : c = false) (h : Q) : if c = true then P else Q := by subst hc; exact h

/-- a writer's name -/
def wstr : Wr → Str
  | .ends => Str.ofString "ends"
  | .dots => Str.ofString "dots"
  | .both => Str.ofString "both"

theorem found_crlf (c : Nat) : (!(Builtin.Str.occurrences (Str.ofString "\r\n") ⟨#[c]⟩ 0 (Str.ofString "\r\n").length 1).isEmpty) = decide (c = 13 ∨ c = 10) := by
  rw [StrLaws.found_one]
  have e : (Str.ofString "\r\n").cps.toList = [13, 10] := by decide
  rw [e]
  simp

/-- a new word -/
theorem newWord {h : Heap} {o : List Nat} {b e d : Bool} {x : Str} {t : Tok} (hx : x.cps.toList = o) : WordAt (h.push { cls := .type "tuple", data := .seq [Value.str x t, .bool b, .bool e, .bool d].toArray }) (.ref h.objs.size) (o, b, e, d) := by
  refine ⟨_, t, 0, rfl, ?_⟩
  rw [Heap.get?_push_size _ rfl]
  have : x = ⟨o.toArray⟩ := by
    apply Str.ext'
    apply Array.toList_inj.mp
    rw [hx]
  rw [this]

set_option maxHeartbeats 4000000 in
theorem call_single {prog : Program} {w : World} {A : Around} {E : Value → Shared → Prop} {s : Shared} {mg mb : Str → Option Value} {wr : Wr} {c : Nat} {tw tc : Tok} {Q : Value → Shared → Prop} {n : Nat}
    (hA : AOk A n) (hn : n ≤ 90) (B : Base w mg mb s.heap)
    (h : ∀ v s', WordAt s'.heap v (single wr c) → Keeps s s' → Q v s') : wpAny (model prog w) A (call (.ref 95) [.str (wstr wr) tw, .str ⟨#[c]⟩ tc]) Q E s := by
  refine call_fd (body := bodyOf (stmtAt 15)) (binds := [((Str.ofString "writer"), .str (wstr wr) tw), ((Str.ofString "sign"), .str ⟨#[c]⟩ tc)]) hA (by omega) B (fn_single _) rfl (cd_single _) (.of_eq (by rfl)) (by decide) ?_ rfl rfl rfl rfl rfl ?_
  · intro x hx
    rcases List.mem_cons.mp hx with rfl | hx
    · rfl
    · rw [List.mem_singleton.mp hx]; rfl
  · intro env h₁ E' e F hA'
    have e : EnvOk env s.heap.objs.size (scopeOf (stmtAt 15)) := e
    have fin : ∀ {v : Value} {h' : Heap} {k : Nat} (b), WordAt h' v b → b = single wr c → (∀ b o, h₁.get? b = some o → h'.get? b = some o) → Q v { s with heap := h', toks := k } :=
      fun b hv hb hk => h _ _ (hb ▸ hv) ⟨_, _, rfl, fun b o e => hk b o (F.keep b o e)⟩
    clear h
    refine wpAny_execs_cons ?_
    cases wr with
    | ends =>
      repeat walk_at "ast"
      refine ite_T (by decide) ?_
      repeat walk_at "ast"
      rw [found_crlf]
      by_cases hc : c = 13 ∨ c = 10
      · rw [decide_eq_true hc]
        refine ite_tt ?_
        repeat walk_at "ast"
        refine ite_tt ?_
        repeat walk_at "ast"
        refine ⟨by show 4 ≤ sizeLine; rw [sizeLine_eq]; decide, ?_⟩
        refine fin _ (newWord (by decide : _ = [13, 10])) ?_ (fun b o e => Heap.get?_push_of_some _ e)
        rcases hc with rfl | rfl <;> decide
      · rw [decide_eq_false hc]
        refine ite_ff ?_
        refine ite_ff ?_
        repeat walk_at "ast"
        refine ite_F (by decide) ?_
        refine ite_ff ?_
        repeat walk_at "ast"
        refine ⟨by show 4 ≤ sizeLine; rw [sizeLine_eq]; decide, ?_⟩
        refine fin _ (newWord (rfl : _ = [c])) ?_ (fun b o e => Heap.get?_push_of_some _ e)
        unfold single
        rw [if_neg (by simpa using hc), if_neg (by simp)]
        rfl
    | dots =>
      repeat walk_at "ast"
      refine ite_F (by decide) ?_
      refine ite_ff ?_
      repeat walk_at "ast"
      refine ite_T (by decide) ?_
      repeat walk_at "ast"
      by_cases hc : c = 46
      · subst hc
        refine ite_T (by decide) ?_
        repeat walk_at "ast"
        refine ite_tt ?_
        repeat walk_at "ast"
        refine ⟨by show 4 ≤ sizeLine; rw [sizeLine_eq]; decide, ?_⟩
        refine fin _ (newWord (by decide : _ = [46, 46])) ?_ (fun b o e => Heap.get?_push_of_some _ e)
        decide
      · have hb : ((⟨#[c]⟩ : Str).cps.toList == (Str.ofString ".").cps.toList) = false := by
          have e : (Str.ofString ".").cps.toList = [46] := by decide
          rw [e]; simpa using hc
        refine ite_F hb ?_
        refine ite_ff ?_
        repeat walk_at "ast"
        refine ⟨by show 4 ≤ sizeLine; rw [sizeLine_eq]; decide, ?_⟩
        refine fin _ (newWord (rfl : _ = [c])) ?_ (fun b o e => Heap.get?_push_of_some _ e)
        unfold single
        rw [if_neg (by simp), if_neg (by simpa using hc)]
        rfl
    | both =>
      repeat walk_at "ast"
      refine ite_T (by decide) ?_
      repeat walk_at "ast"
      rw [found_crlf]
      by_cases hc : c = 13 ∨ c = 10
      · rw [decide_eq_true hc]
        refine ite_tt ?_
        repeat walk_at "ast"
        refine ite_tt ?_
        repeat walk_at "ast"
        refine ⟨by show 4 ≤ sizeLine; rw [sizeLine_eq]; decide, ?_⟩
        refine fin _ (newWord (by decide : _ = [13, 10])) ?_ (fun b o e => Heap.get?_push_of_some _ e)
        rcases hc with rfl | rfl <;> decide
      · rw [decide_eq_false hc]
        refine ite_ff ?_
        refine ite_ff ?_
        repeat walk_at "ast"
        refine ite_T (by decide) ?_
        repeat walk_at "ast"
        by_cases hd : c = 46
        · subst hd
          refine ite_T (by decide) ?_
          repeat walk_at "ast"
          refine ite_tt ?_
          repeat walk_at "ast"
          refine ⟨by show 4 ≤ sizeLine; rw [sizeLine_eq]; decide, ?_⟩
          refine fin _ (newWord (by decide : _ = [46, 46])) ?_ (fun b o e => Heap.get?_push_of_some _ e)
          decide
        · have hb : ((⟨#[c]⟩ : Str).cps.toList == (Str.ofString ".").cps.toList) = false := by
            have e : (Str.ofString ".").cps.toList = [46] := by decide
            rw [e]; simpa using hd
          refine ite_F hb ?_
          refine ite_ff ?_
          repeat walk_at "ast"
          refine ⟨by show 4 ≤ sizeLine; rw [sizeLine_eq]; decide, ?_⟩
          refine fin _ (newWord (rfl : _ = [c])) ?_ (fun b o e => Heap.get?_push_of_some _ e)
          unfold single
          rw [if_neg (by simpa using hc), if_neg (by simpa using hd)]
          rfl

end Mine

end

section
namespace Mine
open PySem PySem.W PySem.Calls PyProof.Rows
set_option maxRecDepth 100000
local macro_rules | `(tactic| walk_at "gname") => `(tactic| first
  | with_reducible exact g_law_joined _
  | with_reducible exact g_law_single _
  | with_reducible exact g_law_word _
  | with_reducible exact g_law_text _
  | with_reducible exact g_law_put_ahead _
  | with_reducible exact g_reduce _
  | with_reducible exact g_fix_eols _
  | with_reducible exact g_quote_periods _
  | with_reducible exact g_quotedata _
  | with_reducible exact g_CRLF _
  | with_reducible exact g_twin_re_1 _
  | with_reducible exact g_twin_re_2 _
  | with_reducible exact g_twin_re_3 _
  | with_reducible exact g_initial_missing _)
local macro_rules | `(tactic| walk_at "gnone") => `(tactic| first
  | with_reducible exact gn_range _
  | with_reducible exact gn_len _
  | with_reducible exact gn_ord _
  | with_reducible exact gn_chr _
  | with_reducible exact gn_bytes _
  | with_reducible exact gn_sum _
  | with_reducible exact gn_iter _
  | with_reducible exact gn_next _
  | with_reducible exact gn_enumerate _)
local macro_rules | `(tactic| walk_at "bname") => `(tactic| first
  | with_reducible exact b_range
  | with_reducible exact b_len
  | with_reducible exact b_ord
  | with_reducible exact b_chr
  | with_reducible exact b_bytes
  | with_reducible exact b_sum
  | with_reducible exact b_iter
  | with_reducible exact b_next
  | with_reducible exact b_enumerate)
local macro_rules | `(tactic| walk_at "ast") => `(tactic| first
  | with_reducible refine wpAny_execs_cons ?_
  | with_reducible refine wpAny_execs_nil ?_
  | ((with_reducible refine wpAny_Assign_Name ?_ ?p1); (case p1 => rfl))
  | with_reducible refine wpAny_If ?_
  | with_reducible refine wpAny_Return_some ?_
  | with_reducible refine isTrue_and ?_
  | with_reducible refine isTrue_and_nil ?_
  | with_reducible refine wpAny_isTrue_Compare1 ?_
  | with_reducible refine wpAny_Compare1 ?_
  | with_reducible refine wpAny_IfExp ?_
  | ((with_reducible show wpAny _ _ (PySem.isTrue (Expr.Subscript _ _ _) _ _) _ _ _); refine isTrue_plain ?_ (by rfl))
  | with_reducible refine Subscript_ ?_
  | with_reducible refine wpAny_Constant_int ?_
  | with_reducible refine wpAny_Constant_str ?_
  | with_reducible refine wpAny_Constant_bool ?_
  | with_reducible refine wpAny_Constant_none ?_
  | with_reducible refine wpAny_Slice ?_
  | with_reducible refine evalPart_none_step ?_
  | with_reducible refine evalPart_some_step ?_
  | with_reducible refine wpAny_UnaryOp ?_
  | with_reducible refine neg_int ?_
  | with_reducible refine wpAny_BinOp ?_
  | with_reducible refine wpAny_Tuple ?_
  | ((with_reducible show wpAny _ _ (spliced (backTo _ (starEach (_ :: _) _))) _ _ _); refine wpAny_items_cons ?_)
  | ((with_reducible show wpAny _ _ (spliced (backTo _ (starEach [] _))) _ _ _); refine wpAny_items_nil ?_)
  | with_reducible refine wpAny_truthy_bool ?_
  | with_reducible refine PySem.P.eq_str ?_
  | with_reducible refine PySem.P.ne_str ?_
  | with_reducible refine PySem.P.in_str ?_
  | ((with_reducible show wpAny _ _ (eval (Expr.Call (Expr.Name _ _) _ [] _) _) _ _ _); refine Call_ ?_)
  | ((with_reducible show wpAny _ _ (callWith _ (Value.builtin _) [] (backTo _ (starEach (_ :: _) _)) []) _ _ _); refine PyProof.Rows.callWith_builtin1 ?_)
  | ((with_reducible show wpAny _ _ (eval (Expr.Name _ _) _) _ _ _); refine nmL (by first | assumption | exact EnvOk.comp (by assumption) _ rfl _ _) (by assumption) (by rfl) (by first | assumption | rfl) ?_ (by decide))
  | ((with_reducible show wpAny _ _ (eval (Expr.Name _ _) _) _ _ _); refine nmG (by first | assumption | exact EnvOk.comp (by assumption) _ rfl _ _) (Base.keeps (by assumption) (Fr.keep (by assumption))) (by rfl) (by walk_at "gname") ?_ (by decide))
  | ((with_reducible show wpAny _ _ (eval (Expr.Name _ _) _) _ _ _); refine nmB (by first | assumption | exact EnvOk.comp (by assumption) _ rfl _ _) (Base.keeps (by assumption) (Fr.keep (by assumption))) (by rfl) (by walk_at "gnone") (by walk_at "bname") (by decide) ?_ (by decide))
  | ((with_reducible show wpAny _ _ (subscriptTail _ _ (Value.ref _) (Value.int _ _)) _ _ _); refine word_item (by assumption) (by assumption) (by rfl) (by rfl) (by decide) (by decide) ?_ (by rfl)))

/-- a tuple's object -/
def Tup (o : Obj) : Prop := o.cls = .type "tuple" ∧ ∃ items n, o.data = .seq items n

theorem not_tup_ns {h : Heap} {C : Addr} {m : Str → Option Value} (hn : h.Ns C m) {b : Addr} {o : Obj} (hb : h.get? b = some o) (ht : Tup o) : b ≠ C := by
  rintro rfl
  obtain ⟨o', es, ep, ho, hd, _⟩ := hn
  rw [ho] at hb; cases hb
  obtain ⟨_, items, n, hd'⟩ := ht
  rw [hd] at hd'; cases hd'
theorem not_tup_list {h : Heap} {D : Addr} {its : Array Value} (hl : h.PlainList D its) {b : Addr} {o : Obj} (hb : h.get? b = some o) (ht : Tup o) : b ≠ D := by
  rintro rfl
  obtain ⟨n, ho⟩ := hl
  rw [ho] at hb; cases hb
  have := ht.1
  simp at this

theorem Heap.Ns.congr_at {h h' : Heap} {a m} (hn : h.Ns a m) (e : ∀ o, h.get? a = some o → h'.get? a = some o) : h'.Ns a m := hn.at' e

section
variable {prog : Program} {w : World} {A : Around} {R : Result → Shared → Prop} {s : Shared}

theorem compLoopH {elt iter : Expr} {x : Str} {px : Pos} {scope : Scope} {pos : Pos} {I D : Addr} {n : Nat} {P : Nat → Value → Prop} {St : Nat → Heap → Prop} {fp : List Addr}
    {cenv : Env} {m : Str → Option Value} (W : Walks prog w A I fp [I] n P St) (F : Nat → Value → Heap → Prop)
    (hmono : ∀ i y h h', F i y h → (∀ b o, Tup o → h.get? b = some o → h'.get? b = some o) → F i y h')
    (hlive : ∀ i h, St i h → ∃ o, h.get? I = some o ∧ ¬ Tup o)
    (hx : cenv.kindOf x = some .local) (hp : (cenv.scope.kind == .class || (cenv.scope.kind == .module && cenv.locals != cenv.globals)) = false)
    (hDC : D ≠ cenv.locals) (hDf : D ∉ fp) (hCf : cenv.locals ∉ fp)
    (hst : St 0 s.heap) (hacc : s.heap.PlainList D #[]) (hn : s.heap.Ns cenv.locals m)
    (helt : ∀ i v s₂ m₂, i < n → P i v → s₂.heap.Ns cenv.locals m₂ → m₂ x = some v → (∀ b o, b ≠ cenv.locals → b ≠ I → b ≠ D → s.heap.get? b = some o → s₂.heap.get? b = some o) →
      wpAny (model prog w) A (eval elt cenv) (fun y s₃ => F i y s₃.heap ∧ Keeps s₂ s₃) (notedBy (model prog w) A cenv fun e s' => R (.error e) s') s₂)
    (hR : ∀ h' tk m' ys, h'.Ns cenv.locals m' → h'.PlainList D ys → ys.size = n → (∀ i y, ys[i]? = some y → F i y h') →
      (∀ b o, b ≠ cenv.locals → b ≠ I → b ≠ D → s.heap.get? b = some o → h'.get? b = some o) → R (.ok .next) { s with heap := h', toks := tk })
    (hsz : n ≤ sizeLine) :
    codeAny (model prog w) A (.compLoop (.ListComp elt [⟨.Name x px, iter, [], 0⟩] scope pos) 0 (.ref I) (.ref D) cenv) R s := by
  have hIfp : I ∈ fp := W.sub I (by simp)
  have hCI : cenv.locals ≠ I := fun e => hCf (e ▸ hIfp)
  have hDI : D ≠ I := fun e => hDf (e ▸ hIfp)
  refine codeAny_compLoop_tests
    (fun k s' => ∃ h' tk m' ys, s' = { s with heap := h', toks := tk } ∧ St ys.size h' ∧ h'.PlainList D ys ∧ h'.Ns cenv.locals m' ∧ (∀ i y, ys[i]? = some y → F i y h') ∧ ys.size ≤ n ∧ k = n + 1 - ys.size ∧
      (∀ b o, b ≠ cenv.locals → b ≠ I → b ≠ D → s.heap.get? b = some o → h'.get? b = some o)) ?_ (n + 1)
    ⟨s.heap, s.toks, m, #[], rfl, hst, hacc, hn, by simp, Nat.zero_le _, rfl, fun _ _ _ _ _ e => e⟩
  rintro k s' ⟨H, tk, m', ys, rfl, hst', hacc', hn', hF, hi, rfl, hk⟩
  have notI : ∀ (i : Nat) (h : Heap), St i h → ∀ b o, h.get? b = some o → Tup o → b ≠ I := by
    rintro i h st b o hb ht rfl
    obtain ⟨o', ho', hnt⟩ := hlive i h st
    rw [ho'] at hb; cases hb
    exact hnt ht
  by_cases hlt : ys.size < n
  · refine W.item ys.size _ _ _ hlt hst' fun v h₁ tk₁ hPv hst₁ hk₁ => ?_
    have hk₁ : ∀ b o, b ≠ I → H.get? b = some o → h₁.get? b = some o := fun b o hb e => hk₁ b o (by simpa using hb) e
    have hn₁ : h₁.Ns cenv.locals m' := hn'.at' fun o e => hk₁ _ o hCI e
    refine wpAny_assign_Name (wpAny_storeName_local hx hn₁ (fun h₂ hn₂ hs₂ => ?_) hp)
    have hst₂ : St (ys.size + 1) h₂ := W.frame _ _ _ hst₁ fun b hb o e => hs₂.extBut b o (fun h => hCf (h ▸ hb)) e
    refine wpAny_tests_nil ?_
    simp only [if_true]
    have up₂ : ∀ b o, b ≠ cenv.locals → b ≠ I → H.get? b = some o → h₂.get? b = some o := fun b o hbC hbI e => hs₂.extBut b o hbC (hk₁ b o hbI e)
    refine wpAny_mono (helt ys.size v _ _ hlt hPv hn₂ (by simp) (fun b o hbC hbI hbD e => up₂ b o hbC hbI (hk b o hbC hbI hbD e))) (fun y s₄ h₄ => ?_) fun _ _ e => e
    obtain ⟨hFy, h₄, tk₄, rfl, hk₄⟩ := h₄
    have hacc₄ : h₄.PlainList D ys := hacc'.at fun o e => hk₄ _ o (up₂ D o hDC hDI e)
    have hn₄ := hn₂.keeps hk₄
    have hst₄ : St (ys.size + 1) h₄ := W.frame _ _ _ hst₂ fun b _ o e => hk₄ b o e
    refine wpAny_list_append_plain (hsz := by omega) hacc₄ fun h₅ hl₅ hs₅ => ?_
    have hst₅ : St (ys.size + 1) h₅ := W.frame _ _ _ hst₄ fun b hb o e => hs₅.extBut b o (fun h => hDf (h ▸ hb)) e
    refine ⟨n + 1 - (ys.push y).size, by rw [Array.size_push]; omega, h₅, tk₄, _, ys.push y, rfl, by rw [Array.size_push]; exact hst₅, hl₅, hn₄.sameBut hs₅ (Ne.symm hDC), ?_, by rw [Array.size_push]; omega, rfl, ?_⟩
    · intro i z hz
      have T₅ : ∀ b o, Tup o → h₄.get? b = some o → h₅.get? b = some o := fun b o ht e => hs₅.extBut b o (not_tup_list hacc₄ e ht) e
      rw [Array.getElem?_push] at hz
      split at hz
      · rename_i he
        cases hz
        rw [he]
        exact hmono _ _ _ _ hFy T₅
      · refine hmono _ _ _ _ (hF i z hz) fun b o ht e => T₅ b o ht ?_
        exact hk₄ b o (up₂ b o (not_tup_ns hn' e ht) (notI _ _ hst' b o e ht) e)
    · exact fun b o hbC hbI hbD e => hs₅.extBut b o hbD (hk₄ b o (up₂ b o hbC hbI (hk b o hbC hbI hbD e)))
  · have hin : ys.size = n := by omega
    refine W.done _ _ _ (hin ▸ hst') fun h₁ tk₁ hk₁ => ?_
    have hk₁ : ∀ b o, b ≠ I → H.get? b = some o → h₁.get? b = some o := fun b o hb e => hk₁ b o (by simpa using hb) e
    refine hR h₁ tk₁ m' ys (hn'.at' fun o e => hk₁ _ o hCI e) (hacc'.at fun o e => hk₁ _ o hDI e) hin ?_ fun b o hbC hbI hbD e => hk₁ b o hbI (hk b o hbC hbI hbD e)
    intro i y hy
    exact hmono _ _ _ _ (hF i y hy) fun b o ht e => hk₁ b o (notI _ _ hst' b o e ht) e
end

section
variable {prog : Program} {w : World} {A : Around} {E : Value → Shared → Prop} {env : Env}

theorem comp_rule {s : Shared} {elt iter : Expr} {x : Str} {px : Pos} {scope : Scope} {cl : List (Str × Addr)} {pos : Pos} {Q : Value → Shared → Prop} (F : Nat → Value → Heap → Prop)
    (hmono : ∀ i y h h', F i y h → (∀ b o, Tup o → h.get? b = some o → h'.get? b = some o) → F i y h')
    (hclos : closureFor scope env = pure cl) (hcell : ∀ y ∈ scope.names, y.2 ≠ .cell) (hkind : scope.kind = .function)
    (hnames : ∀ y ∈ scope.names, y.2 = .local → scope.names.lookup y.1 = some .local) (hx : scope.names.lookup x = some .local)
    (h : wpAny (model prog w) A (eval iter env) (fun xv s₁ => wpAny (model prog w) A (pyIter xv) (fun it s₂ => ∃ I fp n P St, it = .ref I ∧ Walks prog w A I fp [I] n P St ∧ n ≤ sizeLine ∧ (∀ i h, St i h → ∃ o, h.get? I = some o ∧ ¬ Tup o) ∧ St 0 s₂.heap ∧ (∀ b ∈ fp, b < s₂.heap.objs.size) ∧
      (∀ C i v s₃ m₃ E', s₂.heap.objs.size < C → i < n → P i v → s₃.heap.Ns C m₃ → m₃ x = some v → (∀ b o, b ≠ I → s₂.heap.get? b = some o → s₃.heap.get? b = some o) →
        wpAny (model prog w) A (eval elt (compEnvC scope cl C env)) (fun y s₄ => F i y s₄.heap ∧ Keeps s₃ s₄) E' s₃) ∧
      (∀ D h' tk ys, s₂.heap.get? D = none → h'.PlainList D ys → ys.size = n → (∀ i y, ys[i]? = some y → F i y h') →
        (∀ b o, b ≠ I → s₂.heap.get? b = some o → h'.get? b = some o) → Q (.ref D) { s₂ with heap := h', toks := tk })) E s₁) E s)
    (hs : ∀ x, foldedSetIterable iter env x = pure x) :
    wpAny (model prog w) A (eval (.ListComp elt [⟨.Name x px, iter, [], 0⟩] scope pos) env) Q E s := by
  rw [eval_ListComp]
  refine wpAny_comprehension_free (use := none) rfl hs hclos hkind hnames (wpAny_mono h (fun xv s₁ h₁ => wpAny_mono h₁ (fun it s₂ h₂ => ?_) fun _ _ e => e) fun _ _ e => e)
  obtain ⟨I, fp, n, P, St, rfl, W, hsz, hlive, hst, hfp, hq, hQ⟩ := h₂
  refine wpAny_newObj_type (wpAny_newFunctionEnv hcell (by intro y hy; simp at hy) (fun h₁ hns₁ hsb₁ => ?_) hkind)
  dsimp only at hns₁ hsb₁ ⊢
  generalize hH2 : s₂.heap.push { cls := .type "list", dict := none, data := .seq ([] : List Value).toArray } = H2 at hns₁ hsb₁ ⊢
  have hC : H2.objs.size = s₂.heap.objs.size + 1 := by rw [← hH2, Heap.size_push]
  have hDC : s₂.heap.objs.size ≠ H2.objs.size := by rw [hC]; exact Nat.ne_of_lt (Nat.lt_succ_self _)
  have below : ∀ b, b < s₂.heap.objs.size → b ≠ H2.objs.size ∧ b ≠ s₂.heap.objs.size := fun b hb => ⟨by rw [hC]; exact Nat.ne_of_lt (Nat.lt_succ_of_lt hb), Nat.ne_of_lt hb⟩
  have hDf : s₂.heap.objs.size ∉ fp := fun hm => Nat.lt_irrefl _ (hfp _ hm)
  have hCf : H2.objs.size ∉ fp := fun hm => by have := hfp _ hm; rw [hC] at this; exact Nat.lt_irrefl _ (Nat.lt_of_succ_lt this)
  have old : ∀ b o, s₂.heap.get? b = some o → h₁.get? b = some o := fun b o e => hsb₁.extBut b o (below b (Heap.lt_size e)).1 (Heap.get?_push_of_some _ (hH2 ▸ Heap.get?_push_of_some _ e))
  have hacc : h₁.PlainList s₂.heap.objs.size #[] := ⟨_, hsb₁.extBut _ _ hDC (Heap.get?_push_of_some _ (hH2 ▸ Heap.get?_push_size _ rfl))⟩
  have hst₁ : St 0 h₁ := W.frame _ _ _ hst fun b _ o e => old b o e
  have fresh : ∀ a, s₂.heap.objs.size ≤ a → s₂.heap.get? a = none := fun a ha => by
    cases e : s₂.heap.get? a with
    | none => rfl
    | some o' => exact absurd (Heap.lt_size e) (Nat.not_lt.mpr ha)
  have loop : ∀ s₃ : Shared, s₃ = { s₂ with heap := h₁, toks := s₂.toks + ([] : List (Str × Value)).length } →
      codeAny (model prog w) A (.compLoop (.ListComp elt [⟨.Name x px, iter, [], 0⟩] scope pos) 0 (.ref I) (.ref s₂.heap.objs.size) (compEnvC scope cl H2.objs.size env))
        (compPost (model prog w) A E none Q (.ref s₂.heap.objs.size) H2.objs.size) s₃ := by
    rintro s₃ rfl
    refine compLoopH (cenv := compEnvC scope cl H2.objs.size env) W F hmono hlive (lookup_relabel_local hx) (by simp [compEnvC, relabel, hkind]) hDC hDf hCf hst₁ hacc hns₁
      (fun i v s₃ m₃ hi hv hn hm hk => hq H2.objs.size i v s₃ m₃ _ (by rw [hC]; exact Nat.lt_succ_self _) hi hv hn hm (fun b o hbI e => hk b o (below b (Heap.lt_size e)).1 hbI (below b (Heap.lt_size e)).2 (old b o e))) (fun h' tk m' ys hn hpl hlen hF hk => ?_) hsz
    refine ⟨m', hn, fun h'' hs'' => hQ _ h'' tk ys (fresh _ (Nat.le_refl _)) (hpl.extBut hs''.extBut hDC) hlen (fun i y hy => ?_) fun b o hbI e => hs''.extBut b o (below b (Heap.lt_size e)).1 (hk b o (below b (Heap.lt_size e)).1 hbI (below b (Heap.lt_size e)).2 (old b o e))⟩
    exact hmono _ _ _ _ (hF i y hy) fun b o ht e => hs''.extBut b o (not_tup_ns hn e ht) e
  exact codeAny_compStart_list (loop _ rfl) (W.self 0 _ _ _ hst₁ (loop _ rfl))
end

theorem EnvOk.comp {env : Env} {L : Addr} {sc : Scope} (e : EnvOk env L sc) (scope : Scope) (hk : scope.kind = .function) (cl : List (Str × Addr)) (C : Addr) : EnvOk (compEnvC scope cl C env) C (relabel scope env) :=
  ⟨hk, rfl, e.gl, e.bi, fun _ => rfl⟩

end Mine

end

section
namespace Mine
open PySem PySem.W PySem.Calls PyProof.Rows
set_option maxRecDepth 100000
local macro_rules | `(tactic| walk_at "gname") => `(tactic| first
  | with_reducible exact g_law_joined _
  | with_reducible exact g_law_single _
  | with_reducible exact g_law_word _
  | with_reducible exact g_law_text _
  | with_reducible exact g_law_put_ahead _
  | with_reducible exact g_reduce _
  | with_reducible exact g_fix_eols _
  | with_reducible exact g_quote_periods _
  | with_reducible exact g_quotedata _
  | with_reducible exact g_CRLF _
  | with_reducible exact g_twin_re_1 _
  | with_reducible exact g_twin_re_2 _
  | with_reducible exact g_twin_re_3 _
  | with_reducible exact g_initial_missing _)
local macro_rules | `(tactic| walk_at "gnone") => `(tactic| first
  | with_reducible exact gn_range _
  | with_reducible exact gn_len _
  | with_reducible exact gn_ord _
  | with_reducible exact gn_chr _
  | with_reducible exact gn_bytes _
  | with_reducible exact gn_sum _
  | with_reducible exact gn_iter _
  | with_reducible exact gn_next _
  | with_reducible exact gn_enumerate _)
local macro_rules | `(tactic| walk_at "bname") => `(tactic| first
  | with_reducible exact b_range
  | with_reducible exact b_len
  | with_reducible exact b_ord
  | with_reducible exact b_chr
  | with_reducible exact b_bytes
  | with_reducible exact b_sum
  | with_reducible exact b_iter
  | with_reducible exact b_next
  | with_reducible exact b_enumerate)
local macro_rules | `(tactic| walk_at "ast") => `(tactic| first
  | with_reducible refine wpAny_execs_cons ?_
  | with_reducible refine wpAny_execs_nil ?_
  | ((with_reducible refine wpAny_Assign_Name ?_ ?p1); (case p1 => rfl))
  | with_reducible refine wpAny_If ?_
  | with_reducible refine wpAny_Return_some ?_
  | with_reducible refine isTrue_and ?_
  | with_reducible refine isTrue_and_nil ?_
  | with_reducible refine wpAny_isTrue_Compare1 ?_
  | with_reducible refine wpAny_Compare1 ?_
  | with_reducible refine wpAny_IfExp ?_
  | ((with_reducible show wpAny _ _ (PySem.isTrue (Expr.Subscript _ _ _) _ _) _ _ _); refine isTrue_plain ?_ (by rfl))
  | with_reducible refine Subscript_ ?_
  | with_reducible refine wpAny_Constant_int ?_
  | with_reducible refine wpAny_Constant_str ?_
  | with_reducible refine wpAny_Constant_bool ?_
  | with_reducible refine wpAny_Constant_none ?_
  | with_reducible refine wpAny_Slice ?_
  | with_reducible refine evalPart_none_step ?_
  | with_reducible refine evalPart_some_step ?_
  | with_reducible refine wpAny_UnaryOp ?_
  | with_reducible refine neg_int ?_
  | with_reducible refine wpAny_BinOp ?_
  | with_reducible refine wpAny_Tuple ?_
  | ((with_reducible show wpAny _ _ (spliced (backTo _ (starEach (_ :: _) _))) _ _ _); refine wpAny_items_cons ?_)
  | ((with_reducible show wpAny _ _ (spliced (backTo _ (starEach [] _))) _ _ _); refine wpAny_items_nil ?_)
  | with_reducible refine wpAny_truthy_bool ?_
  | with_reducible refine PySem.P.eq_str ?_
  | with_reducible refine PySem.P.ne_str ?_
  | with_reducible refine PySem.P.in_str ?_
  | ((with_reducible show wpAny _ _ (eval (Expr.Call (Expr.Name _ _) _ [] _) _) _ _ _); refine Call_ ?_)
  | ((with_reducible show wpAny _ _ (callWith _ (Value.builtin _) [] (backTo _ (starEach (_ :: _) _)) []) _ _ _); refine PyProof.Rows.callWith_builtin1 ?_)
  | ((with_reducible show wpAny _ _ (eval (Expr.Name _ _) _) _ _ _); refine nmL (by first | assumption | exact EnvOk.comp (by assumption) _ rfl _ _) (by assumption) (by rfl) (by first | assumption | rfl) ?_ (by decide))
  | ((with_reducible show wpAny _ _ (eval (Expr.Name _ _) _) _ _ _); refine nmG (by first | assumption | exact EnvOk.comp (by assumption) _ rfl _ _) (Base.keeps (by assumption) (Fr.keep (by assumption))) (by rfl) (by walk_at "gname") ?_ (by decide))
  | ((with_reducible show wpAny _ _ (eval (Expr.Name _ _) _) _ _ _); refine nmB (by first | assumption | exact EnvOk.comp (by assumption) _ rfl _ _) (Base.keeps (by assumption) (Fr.keep (by assumption))) (by rfl) (by walk_at "gnone") (by walk_at "bname") (by decide) ?_ (by decide))
  | ((with_reducible show wpAny _ _ (subscriptTail _ _ (Value.ref _) (Value.int _ _)) _ _ _); refine word_item (by assumption) (by assumption) (by rfl) (by rfl) (by decide) (by decide) ?_ (by rfl)))

theorem intsAre_of (l : List Value) (cs : List Nat) (hl : l.length = cs.length) (h : ∀ (i : Nat) (y : Value), l[i]? = some y → ∃ c t, cs[i]? = some c ∧ y = Value.int (c : Int) t) : IntsAre l (cs.map fun (c : Nat) => (c : Int)) := by
  induction l generalizing cs with
  | nil =>
    cases cs with
    | nil => exact .nil
    | cons c r => simp at hl
  | cons v l ih =>
    cases cs with
    | nil => simp at hl
    | cons c r =>
      obtain ⟨c', t, h1, rfl⟩ := h 0 v rfl
      cases h1
      exact .cons _ _ (ih r (by simpa using hl) fun i y hy => h (i + 1) y hy)
theorem strsAre_of (l : List Value) (cs : List Nat) (hl : l.length = cs.length) (h : ∀ (i : Nat) (y : Value), l[i]? = some y → ∃ c t, cs[i]? = some c ∧ y = Value.str ⟨#[c]⟩ t) :
    ∃ ps : List (Str × Tok), l = strValues ps ∧ ps.map (·.1) = cs.map fun c => (⟨#[c]⟩ : Str) := by
  induction l generalizing cs with
  | nil =>
    cases cs with
    | nil => exact ⟨[], rfl, rfl⟩
    | cons c r => simp at hl
  | cons v l ih =>
    cases cs with
    | nil => simp at hl
    | cons c r =>
      obtain ⟨c', t, h1, rfl⟩ := h 0 v rfl
      cases h1
      obtain ⟨ps, rfl, h2⟩ := ih r (by simpa using hl) fun i y hy => h (i + 1) y hy
      exact ⟨(⟨#[c]⟩, t) :: ps, rfl, by simp [h2]⟩

/-- the walk over a str's signs -/
theorem iter_str {prog : Program} {w : World} {A : Around} {E : Value → Shared → Prop} {s : Shared} {x : Str} {t : Tok} {Q : Value → Shared → Prop}
    (hQ : ∀ (o : Obj) (St : Nat → Heap → Prop), (∀ A' : Around, A'.handled = none → Walks prog w A' s.heap.objs.size [s.heap.objs.size] [s.heap.objs.size] x.cps.size (SignAt x) St) → (∀ i h, St i h → ∃ o, h.get? s.heap.objs.size = some o ∧ ¬ Tup o) → St 0 (s.heap.push o) →
      Q (.ref s.heap.objs.size) { s with heap := s.heap.push o }) : wpAny (model prog w) A (pyIter (.str x t)) Q E s := by
  cases ha : x.cps.all (· < 128)
  · refine wpAny_pyIter_wide ha (hQ _ _ (fun A' hA => Walks.strWide hA _ x t) ?_ ⟨_, Heap.get?_push_size _ rfl, rfl, rfl⟩)
    rintro i h ⟨o, ho, hc, _⟩
    exact ⟨o, ho, fun ht => by have := ht.1; rw [hc] at this; simp at this⟩
  · refine wpAny_pyIter_ascii ha (hQ _ _ (fun A' hA => Walks.strAscii hA _ x t) ?_ ⟨_, Heap.get?_push_size _ rfl, rfl, rfl⟩)
    rintro i h ⟨o, ho, hc, _⟩
    exact ⟨o, ho, fun ht => by have := ht.1; rw [hc] at this; simp at this⟩

theorem newWord2 {h : Heap} {o : List Nat} {b e b' e' d : Bool} {x : Str} {t : Tok} (hx : x.cps.toList = o) (hb : b' = b) (he : e' = e) : WordAt (h.push { cls := .type "tuple", data := .seq [Value.str x t, .bool b', .bool e', .bool d].toArray }) (.ref h.objs.size) (o, b, e, d) := by
  subst hb he
  exact newWord hx

theorem dots_len (b : Bool) (x : List Nat) : (dots b x).length ≤ 2 * x.length := by
  induction x generalizing b with
  | nil => simp [dots]
  | cons c r ih =>
    rw [dots_cons]
    split
    · have := ih false
      simp only [List.length_cons]; omega
    · have := ih (c == 10)
      simp only [List.length_cons]; omega
theorem dots_256 (b : Bool) (x : List Nat) (h : ∀ c ∈ x, c < 256) : ∀ c ∈ dots b x, c < 256 := by
  induction x generalizing b with
  | nil => simp [dots]
  | cons c r ih =>
    rw [dots_cons]
    split
    · intro d hd
      rcases List.mem_cons.mp hd with rfl | hd
      · decide
      · rcases List.mem_cons.mp hd with rfl | hd
        · decide
        · exact ih false (fun e he => h e (List.mem_cons_of_mem _ he)) d hd
    · intro d hd
      rcases List.mem_cons.mp hd with rfl | hd
      · exact h _ List.mem_cons_self
      · exact ih _ (fun e he => h e (List.mem_cons_of_mem _ he)) d hd

set_option maxHeartbeats 8000000 in
theorem call_word {prog : Program} {w : World} {A : Around} {E : Value → Shared → Prop} {s : Shared} {mg mb : Str → Option Value} {wr : Wr} {x : Str} {tw tx : Tok} {Q : Value → Shared → Prop} {n : Nat}
    (hA : AOk A n) (hn : n ≤ 80) (B : Base w mg mb s.heap) (hlen : x.cps.size ≤ 400) (hpos : 0 < x.cps.size) (h256 : ∀ c ∈ x.cps.toList, c < 256)
    (h : ∀ v s', WordAt s'.heap v (wordOf wr x.cps.toList) → Keeps s s' → Q v s') : wpAny (model prog w) A (call (.ref 88) [.str (wstr wr) tw, .str x tx]) Q E s := by
  refine call_fd (body := bodyOf (stmtAt 14)) (binds := [((Str.ofString "writer"), .str (wstr wr) tw), ((Str.ofString "text"), .str x tx)]) hA (by omega) B (fn_word _) rfl (cd_word _) (.of_eq (by rfl)) (by decide) ?_ rfl rfl rfl rfl rfl ?_
  · intro x hx
    rcases List.mem_cons.mp hx with rfl | hx
    · rfl
    · rw [List.mem_singleton.mp hx]; rfl
  · intro env h₁ E' e F hA'
    have e : EnvOk env s.heap.objs.size (scopeOf (stmtAt 14)) := e
    have fin : ∀ {v : Value} {h' : Heap} {k : Nat} (b), WordAt h' v b → b = wordOf wr x.cps.toList → (∀ b o, s.heap.get? b = some o → h'.get? b = some o) → Q v { s with heap := h', toks := k } :=
      fun b hv hb hk => h _ _ (hb ▸ hv) ⟨_, _, rfl, hk⟩
    clear h
    have hxl : x.length ≤ sizeLine := by show x.cps.size ≤ sizeLine; rw [sizeLine_eq]; omega
    have hlf : (Str.ofString "\n").cps.toList = [10] := by decide
    have hcr : (Str.ofString "\r").cps.toList = [13] := by decide
    have hs1 : (Txt.slice x none (some 1)).cps.toList = x.cps.toList.take 1 := slice_to x 1
    have hs2 : (Txt.slice x (some (-1)) none).cps.toList = x.cps.toList.drop (x.cps.toList.length - 1) := slice_last x
    have hb1 : ((Txt.slice x none (some 1)).cps.toList == (Str.ofString "\n").cps.toList) = (x.cps.toList.take 1 == [10]) := by rw [hs1, hlf]
    have hb2 : ((Txt.slice x (some (-1)) none).cps.toList == (Str.ofString "\r").cps.toList) = (x.cps.toList.drop (x.cps.toList.length - 1) == [13]) := by rw [hs2, hcr]
    refine wpAny_execs_cons ?_
    cases wr with
    | ends =>
      repeat walk_at "ast"
      refine ite_F (by decide) ?_
      repeat walk_at "ast"
      refine ite_T (by decide) ?_
      repeat walk_at "ast"
      refine cw_fn (fn_fix_eols _) ?_
      repeat walk_at "ast"
      refine ⟨(B.keeps F.keep).k, ?_⟩
      refine call_fix hA' (by omega) (B.keeps F.keep) (by omega) hpos fun y t s' hy hk => ?_
      obtain ⟨h₂, k₂, rfl, hk₂⟩ := hk
      have F₂ := F.keeps hk₂
      repeat walk_at "ast"
      refine slice_tail .none (.int _ _) hxl (fun h₃ t₃ k₃ hk₃ => ?_) rfl (fun _ => rfl)
      have F₃ := F₂.keeps hk₃
      repeat walk_at "ast"
      refine slice_tail (.int _ _) .none hxl (fun h₄ t₄ k₄ hk₄ => ?_) rfl (fun _ => rfl)
      have F₄ := F₃.keeps hk₄
      repeat walk_at "ast"
      refine ⟨by show 4 ≤ sizeLine; rw [sizeLine_eq]; decide, ?_⟩
      refine fin (fixE x.cps.toList, x.cps.toList.take 1 == [10], x.cps.toList.drop (x.cps.toList.length - 1) == [13], false) (newWord2 hy hb1 hb2) ?_ (fun b o e => Heap.get?_push_of_some _ (F₄.keep b o e))
      rfl
    | both =>
      repeat walk_at "ast"
      refine ite_F (by decide) ?_
      repeat walk_at "ast"
      refine ite_F (by decide) ?_
      repeat walk_at "ast"
      refine cw_fn (fn_quotedata _) ?_
      repeat walk_at "ast"
      refine ⟨(B.keeps F.keep).k, ?_⟩
      refine call_quote hA' (by omega) (B.keeps F.keep) (by omega) hpos h256 fun y t s' hy hk => ?_
      obtain ⟨h₂, k₂, rfl, hk₂⟩ := hk
      have F₂ := F.keeps hk₂
      repeat walk_at "ast"
      refine slice_tail .none (.int _ _) hxl (fun h₃ t₃ k₃ hk₃ => ?_) rfl (fun _ => rfl)
      have F₃ := F₂.keeps hk₃
      repeat walk_at "ast"
      refine slice_tail (.int _ _) .none hxl (fun h₄ t₄ k₄ hk₄ => ?_) rfl (fun _ => rfl)
      have F₄ := F₃.keeps hk₄
      repeat walk_at "ast"
      refine ⟨by show 4 ≤ sizeLine; rw [sizeLine_eq]; decide, ?_⟩
      refine fin (dots true (fixE x.cps.toList), x.cps.toList.take 1 == [10], x.cps.toList.drop (x.cps.toList.length - 1) == [13], true) (newWord2 hy hb1 hb2) ?_ (fun b o e => Heap.get?_push_of_some _ (F₄.keep b o e))
      rfl
    | dots =>
      repeat walk_at "ast"
      refine ite_T (by decide) ?_
      repeat walk_at "ast"
      refine cw_fn (fn_quote_periods _) ?_
      repeat walk_at "ast"
      refine PyProof.Rows.callWith_type1 ?_
      refine wpAny_items_cons ?_
      have B₁ : Base w mg mb h₁ := B.keeps F.keep
      refine comp_rule (cl := []) (F := fun i y _ => ∃ (c : Nat) (t : Tok), x.cps.toList[i]? = some c ∧ y = Value.int (c : Int) t) (fun _ _ _ _ hF _ => hF) rfl (by decide) rfl (by decide) rfl ?_ (fun _ => rfl)
      repeat walk_at "ast"
      refine iter_str fun o St W hlive hst => ?_
      refine ⟨_, _, _, _, St, rfl, W _ hA'.handled, hxl, hlive, hst, ?_, ?_, ?_⟩
      · intro b hb
        rw [List.mem_singleton.mp hb]
        show h₁.objs.size < (h₁.push o).objs.size
        rw [Heap.size_push]; exact Nat.lt_succ_self _
      · intro C i v s₃ m₃ E'' hC hi hP hn hm hk
        obtain ⟨c, u, hc, rfl⟩ := hP
        have hCs : h₁.objs.size ≤ C := by
          have : (h₁.push o).objs.size < C := hC
          rw [Heap.size_push] at this; omega
        have Fc : Fr h₁ C s₃.heap m₃ := ⟨hn, fun b o e => hk b o (Nat.ne_of_lt (Heap.lt_size e)) (Heap.get?_push_of_some _ e), hCs⟩
        repeat walk_at "ast"
        refine P.ord_of_char ?_
        exact ⟨⟨c, _, by simpa using hc, rfl⟩, ⟨_, _, rfl, fun _ _ e => e⟩⟩
      · intro D h₂ tk₂ ys hD hpl hlen hF hk₂
        have F₂ : Fr s.heap s.heap.objs.size h₂ _ := F.keeps fun b o e => hk₂ b o (Nat.ne_of_lt (Heap.lt_size e)) (Heap.get?_push_of_some _ e)
        repeat walk_at "ast"
        have hlen' : ys.toList.length = x.cps.toList.length := hlen
        refine call_bytes_ints (vs := ys.toList) (ns := x.cps.toList.map fun (c : Nat) => (c : Int)) (by simpa using hpl.isList) (intsAre_of _ _ hlen' fun i y hy => hF i y (by simpa using hy)) ?_ (by rw [hlen']; exact hxl) hA'.handled fun h₃ t₃ k₃ hk₃ => ?_
        · intro n hn
          obtain ⟨c, hc, rfl⟩ := List.mem_map.mp hn
          have := h256 c hc
          omega
        have F₃ := F₂.keeps hk₃
        have hba : ∀ t, Value.bytes (byteArr (x.cps.toList.map fun (c : Nat) => (c : Int))) t = pv 1 x.cps t := by
          intro t
          unfold pv byteArr
          rw [if_neg (by decide)]
          congr 1
          apply Array.toList_inj.mp
          simp
        rw [hba]
        repeat walk_at "ast"
        refine ⟨(B.keeps F₃.keep).k, ?_⟩
        refine call_periods hA' (by omega) (B.keeps F₃.keep) (by omega) hpos (fun c hc => h256 c (Array.mem_def.mp hc)) fun y t s' hy hk => ?_
        obtain ⟨h₄, k₄, rfl, hk₄⟩ := hk
        have F₄ := F₃.keeps hk₄
        refine stL e F₄ (by rfl) fun h₅ F₅ _ => ?_
        dsimp only
        clear F F₂ F₃ F₄
        repeat walk_at "ast"
        refine wpAny_Call_method (T := "str") rfl (by rfl) rfl F.plainAttrs_str F.slot_str_join F.type_str_join ?_
        repeat walk_at "ast"
        refine ⟨typeIs_str _ _ _, (fun a e => nomatch e), ?_⟩
        refine callWith_method1 ?_ (by rfl) (by rfl)
        refine wpAny_items_cons ?_
        have B₅ : Base w mg mb h₅ := B.keeps F₅.keep
        have hyl : y.size ≤ 800 := by
          have h1 : y.toList.length = y.size := rfl
          have h2 := dots_len true x.cps.toList
          rw [← hy] at h2
          have h3 : x.cps.toList.length = x.cps.size := rfl
          omega
        have hy256 : ∀ c ∈ y.toList, c < 256 := by rw [hy]; exact dots_256 true _ h256
        refine comp_rule (cl := []) (F := fun i v _ => ∃ (c : Nat) (t : Tok), y.toList[i]? = some c ∧ v = Value.str ⟨#[c]⟩ t) (fun _ _ _ _ hF _ => hF) rfl (by decide) rfl (by decide) rfl ?_ (fun _ => rfl)
        repeat walk_at "ast"
        refine PySem.W.KBw.pyIter_bytes ?_
        refine ⟨_, _, _, _, _, rfl, PySem.W.KBw.walks hA'.handled _ _ _, ?_, ?_, ⟨_, Heap.get?_push_size _ rfl, rfl, rfl⟩, ?_, ?_, ?_⟩
        · rw [Array.size_map, sizeLine_eq]; omega
        · rintro i h ⟨o, ho, hc, _⟩
          exact ⟨o, ho, fun ht => by have := ht.1; rw [hc] at this; simp at this⟩
        · intro b hb
          rw [List.mem_singleton.mp hb]
          show h₅.objs.size < (h₅.push _).objs.size
          rw [Heap.size_push]; exact Nat.lt_succ_self _
        · intro C i v s₃ m₃ E'' hC hi hP hn hm hk
          obtain ⟨c, u, hc, rfl⟩ := hP
          have hCs : h₅.objs.size ≤ C := by
            have : (h₅.push _).objs.size < C := hC
            rw [Heap.size_push] at this; omega
          have Fc : Fr h₅ C s₃.heap m₃ := ⟨hn, fun b o e => hk b o (Nat.ne_of_lt (Heap.lt_size e)) (Heap.get?_push_of_some _ e), hCs⟩
          repeat walk_at "ast"
          have hlt := c.toNat_lt
          refine P.chr_of_int (by simp; omega) ?_
          rw [Array.getElem?_map, Option.map_eq_some_iff] at hc
          obtain ⟨d, hd, rfl⟩ := hc
          have hd' := hy256 d (List.mem_of_getElem? (by simpa using hd))
          have e1 : ((d.toUInt8.toNat : Int)).toNat = d := by simp; omega
          rw [e1]
          exact ⟨⟨d, _, by simpa using hd, rfl⟩, ⟨_, _, rfl, fun _ _ e => e⟩⟩
        · intro D h₆ tk₆ ys hD hpl hlen hF hk₆
          have F₆ := F₅.keeps fun b o e => hk₆ b o (Nat.ne_of_lt (Heap.lt_size e)) (Heap.get?_push_of_some _ e)
          repeat walk_at "ast"
          have hlen' : ys.toList.length = y.toList.length := by
            rw [Array.size_map] at hlen
            exact hlen
          obtain ⟨ps, hps, hps2⟩ := strsAre_of ys.toList y.toList hlen' fun i v hv => hF i v (by simpa using hv)
          have hl6 : h₆.IsList D (strValues ps).toArray := by rw [← hps]; simpa using hpl.isList
          have he0 : Str.ofString "" = ⟨#[]⟩ := by decide
          have hcat : (ps.map (·.1)).flatMap (fun (x : Str) => x.cps.toList) = y.toList := by
            rw [hps2, List.flatMap_map]
            simp
          refine SC.join hl6 rfl ?_ fun t' k => ?_
          · unfold JoinOk
            rw [Bool.not_eq_true', List.foldl_toArray]
            unfold Builtin.Str.tooLong
            have := foldl_len (ps.map (·.1)) 0
            rw [hcat] at this
            have h0 : (Str.ofString "").length = 0 := by rw [he0]; rfl
            rw [h0, this, sizeLine_eq]
            have h1 : y.toList.length = y.size := rfl
            exact decide_eq_false (by omega)
          repeat walk_at "ast"
          refine ⟨by show 4 ≤ sizeLine; rw [sizeLine_eq]; decide, ?_⟩
          refine fin (dots true x.cps.toList, false, false, true) (newWord ?_) rfl (fun b o e => Heap.get?_push_of_some _ (F₆.keep b o e))
          unfold Txt.join
          rw [he0, glued_empty, hcat, hy]

end Mine

end

section
namespace Mine
open PySem PySem.W PySem.Calls PyProof.Rows
set_option maxRecDepth 100000
local macro_rules | `(tactic| walk_at "gname") => `(tactic| first
  | with_reducible exact g_law_joined _
  | with_reducible exact g_law_single _
  | with_reducible exact g_law_word _
  | with_reducible exact g_law_text _
  | with_reducible exact g_law_put_ahead _
  | with_reducible exact g_reduce _
  | with_reducible exact g_fix_eols _
  | with_reducible exact g_quote_periods _
  | with_reducible exact g_quotedata _
  | with_reducible exact g_CRLF _
  | with_reducible exact g_twin_re_1 _
  | with_reducible exact g_twin_re_2 _
  | with_reducible exact g_twin_re_3 _
  | with_reducible exact g_initial_missing _)
local macro_rules | `(tactic| walk_at "gnone") => `(tactic| first
  | with_reducible exact gn_range _
  | with_reducible exact gn_len _
  | with_reducible exact gn_ord _
  | with_reducible exact gn_chr _
  | with_reducible exact gn_bytes _
  | with_reducible exact gn_sum _
  | with_reducible exact gn_iter _
  | with_reducible exact gn_next _
  | with_reducible exact gn_enumerate _)
local macro_rules | `(tactic| walk_at "bname") => `(tactic| first
  | with_reducible exact b_range
  | with_reducible exact b_len
  | with_reducible exact b_ord
  | with_reducible exact b_chr
  | with_reducible exact b_bytes
  | with_reducible exact b_sum
  | with_reducible exact b_iter
  | with_reducible exact b_next
  | with_reducible exact b_enumerate)
local macro_rules | `(tactic| walk_at "ast") => `(tactic| first
  | with_reducible refine wpAny_execs_cons ?_
  | with_reducible refine wpAny_execs_nil ?_
  | ((with_reducible refine wpAny_Assign_Name ?_ ?p1); (case p1 => rfl))
  | with_reducible refine wpAny_If ?_
  | with_reducible refine wpAny_Return_some ?_
  | with_reducible refine isTrue_and ?_
  | with_reducible refine isTrue_and_nil ?_
  | with_reducible refine wpAny_isTrue_Compare1 ?_
  | with_reducible refine wpAny_Compare1 ?_
  | with_reducible refine wpAny_IfExp ?_
  | ((with_reducible show wpAny _ _ (PySem.isTrue (Expr.Subscript _ _ _) _ _) _ _ _); refine isTrue_plain ?_ (by rfl))
  | with_reducible refine Subscript_ ?_
  | with_reducible refine wpAny_Constant_int ?_
  | with_reducible refine wpAny_Constant_str ?_
  | with_reducible refine wpAny_Constant_bool ?_
  | with_reducible refine wpAny_Constant_none ?_
  | with_reducible refine wpAny_Slice ?_
  | with_reducible refine evalPart_none_step ?_
  | with_reducible refine evalPart_some_step ?_
  | with_reducible refine wpAny_UnaryOp ?_
  | with_reducible refine neg_int ?_
  | with_reducible refine wpAny_BinOp ?_
  | with_reducible refine wpAny_Tuple ?_
  | ((with_reducible show wpAny _ _ (spliced (backTo _ (starEach (_ :: _) _))) _ _ _); refine wpAny_items_cons ?_)
  | ((with_reducible show wpAny _ _ (spliced (backTo _ (starEach [] _))) _ _ _); refine wpAny_items_nil ?_)
  | with_reducible refine wpAny_truthy_bool ?_
  | with_reducible refine PySem.P.eq_str ?_
  | with_reducible refine PySem.P.ne_str ?_
  | with_reducible refine PySem.P.in_str ?_
  | ((with_reducible show wpAny _ _ (eval (Expr.Call (Expr.Name _ _) _ [] _) _) _ _ _); refine Call_ ?_)
  | ((with_reducible show wpAny _ _ (callWith _ (Value.builtin _) [] (backTo _ (starEach (_ :: _) _)) []) _ _ _); refine PyProof.Rows.callWith_builtin1 ?_)
  | ((with_reducible show wpAny _ _ (eval (Expr.Name _ _) _) _ _ _); refine nmL (by first | assumption | exact EnvOk.comp (by assumption) _ rfl _ _) (by assumption) (by rfl) (by first | assumption | rfl) ?_ (by decide))
  | ((with_reducible show wpAny _ _ (eval (Expr.Name _ _) _) _ _ _); refine nmG (by first | assumption | exact EnvOk.comp (by assumption) _ rfl _ _) (Base.keeps (by assumption) (Fr.keep (by assumption))) (by rfl) (by walk_at "gname") ?_ (by decide))
  | ((with_reducible show wpAny _ _ (eval (Expr.Name _ _) _) _ _ _); refine nmB (by first | assumption | exact EnvOk.comp (by assumption) _ rfl _ _) (Base.keeps (by assumption) (Fr.keep (by assumption))) (by rfl) (by walk_at "gnone") (by walk_at "bname") (by decide) ?_ (by decide))
  | ((with_reducible show wpAny _ _ (subscriptTail _ _ (Value.ref _) (Value.int _ _)) _ _ _); refine word_item (by assumption) (by assumption) (by rfl) (by rfl) (by decide) (by decide) ?_ (by rfl)))

theorem WordAt.tup {h h' : Heap} {v : Value} {x : Word} (k : WordAt h v x) (hk : ∀ b o, Tup o → h.get? b = some o → h'.get? b = some o) : WordAt h' v x := by
  obtain ⟨a, t, n, e, g⟩ := k
  exact ⟨a, t, n, e, hk _ _ ⟨rfl, _, _, rfl⟩ g⟩

section
variable {prog : Program} {w : World} {A : Around} {E : Value → Shared → Prop} {s : Shared}

/-- a for over a walk -/
theorem for_walk {x : Str} {px : Pos} {body : List Stmt} {env : Env} {R : Result → Shared → Prop} {I : Addr} {fp : List Addr} {n : Nat} {P : Nat → Value → Prop} {St : Nat → Heap → Prop}
    (W : Walks prog w A I fp [I] n P St) (Inv : Nat → Shared → Prop) (hSt : ∀ i s, Inv i s → St i s.heap)
    (turn : ∀ i s v h' tk E', i < n → Inv i s → P i v → St (i + 1) h' → (∀ b o, b ≠ I → s.heap.get? b = some o → h'.get? b = some o) →
      wpAny (model prog w) A (storeName env x v) (fun _ s₂ => wpAny (model prog w) A (execs body env) (fun f s₃ => match f with
        | .next | .cont => Inv (i + 1) s₃
        | .brk => R (.ok .next) s₃
        | .ret v => R (.ok (.ret v)) s₃) E' s₂) E' { s with heap := h', toks := tk })
    (done : ∀ s h' tk, Inv n s → (∀ b o, b ≠ I → s.heap.get? b = some o → h'.get? b = some o) → R (.ok .next) { s with heap := h', toks := tk })
    (h0 : Inv 0 s) : codeAny (model prog w) A (.forLoop (.Name x px) (.ref I) body [] env) R s := by
  refine codeAny_forLoop_any (fun k s => ∃ i, k = n + 1 - i ∧ i ≤ n ∧ Inv i s) ?_ (n + 1) ⟨0, rfl, Nat.zero_le _, h0⟩
  rintro k s ⟨i, rfl, hi, hI⟩
  by_cases hlt : i < n
  · refine W.item i _ _ _ hlt (hSt i s hI) fun v h' tk hP hst hk => ?_
    refine wpAny_of_eq (a := ()) rfl ?_
    refine wpAny_assign_Name ?_
    refine wpAny_mono (turn i s v h' tk _ hlt hI hP hst fun b o hb e => hk b o (by simpa using hb) e) (fun _ s₂ h₂ => wpAny_mono h₂ (fun f s₃ h₃ => ?_) fun _ _ x => x) fun _ _ x => x
    cases f with
    | next => exact ⟨n + 1 - (i + 1), by omega, i + 1, rfl, hlt, h₃⟩
    | cont => exact ⟨n + 1 - (i + 1), by omega, i + 1, rfl, hlt, h₃⟩
    | brk => exact h₃
    | ret v => exact h₃
  · have : i = n := by omega
    subst this
    refine W.done _ _ _ (hSt i s hI) fun h' tk hk => ?_
    exact wpAny_execs_nil (done s h' tk hI fun b o hb e => hk b o (by simpa using hb) e)

theorem call_iter_list {D : Addr} {items : Array Value} {Q : Value → Shared → Prop} (hl : s.heap.IsList D items)
    (h : Q (.ref s.heap.objs.size) { s with heap := s.heap.push { cls := .type "list_iterator", data := .fields #[.ref D, .int 0 0] } }) : wpAny (model prog w) A (call (.builtin "iter") [.ref D]) Q E s := by
  refine call_function_entry (by decide +kernel) (by decide +kernel) kdk_entry_iter (kdk_args_iter _) ?_
  unfold Builtin.«iter»
  refine wpAny_bind (m := someArgs "iter" 1 2 _) (wpAny_of_eq (a := [Value.ref D]) (by first | rfl | kernel_rfl!) ?_)
  show wpAny _ _ (pyIter (.ref D) >>= _) _ _ _
  exact wpAny_bind (wpAny_pyIter_list hl (wpAny_pure ⟨_, rfl, h⟩))

theorem call_next_list {it l : Addr} {i : Nat} {items : Array Value} {x : Value} {Q : Value → Shared → Prop} (hit : s.heap.IsListIter it l i) (hl : s.heap.IsList l items) (hx : items[i]? = some x)
    (hQ : ∀ h', h'.IsListIter it l (i + 1) → Heap.SameBut it s.heap h' → Q x { s with heap := h' }) : wpAny (model prog w) A (call (.builtin "next") [.ref it]) Q E s := by
  obtain ⟨o, ho, hc, hd⟩ := id hit
  obtain ⟨ol, hol, _, nl, hdl⟩ := hl
  refine call_function_entry (by decide +kernel) (by decide +kernel) kdk_entry_next (kdk_args_next _) ?_
  unfold Builtin.«next»
  refine wpAny_bind (m := someArgs "next" 1 2 _) (wpAny_of_eq (a := [Value.ref it]) (by first | rfl | kernel_rfl!) ?_)
  show wpAny _ _ (specialOf (.ref it) "__next__" >>= _) _ _ _
  refine wpAny_bind (wpAny_specialOf hit.typeIs slot_listiter_next.lookup ?_)
  show wpAny _ _ (callSpecial? (.ref it) (Str.ofString "__next__") >>= _) _ _ _
  refine wpAny_bind ?_
  refine wpAny_callSpecial?_slot (name := Str.ofString "__next__") hit.typeIs slot_listiter_next
    (wpAny_call_entry slot_listiter_next hit.typeIs entry_listiter_next ?_ (args_listiter_next _))
  show wpAny _ _ (field (.ref it) 0 >>= _) _ _ s
  refine wpAny_bind (wpAny_field ho hd (x := .ref l) rfl ?_)
  show wpAny _ _ (if (Value.ref l == Value.none) = true then _ else _) _ _ s
  rw [if_neg (show ¬ ((Value.ref l == Value.none) = true) from Bool.false_ne_true)]
  show wpAny _ _ (field (.ref it) 1 >>= _) _ _ s
  refine wpAny_bind (wpAny_field ho hd (x := .int i 0) rfl ?_)
  show wpAny _ _ (seqItems? (.ref l) >>= _) _ _ s
  refine wpAny_bind (wpAny_seqItems hol hdl ?_)
  simp only [Int.toNat_natCast, hx]
  refine wpAny_bind (wpAny_setField ho hd (by simp) (wpAny_pure ⟨x, rfl, wpAny_pure ⟨_, rfl, hQ _ ?_ (Heap.SameBut.update ..)⟩⟩))
  exact ⟨_, Heap.get?_update_self _ ho (Obj.isFreed_of_fields (Obj.data_mapFields hd _)), (Obj.cls_mapFields ..).trans hc, by
    rw [Obj.data_mapFields hd]; simp [rawInt]⟩
end

/-- a function of two words -/
def OpOk (prog : Program) (w : World) (mg mb : Str → Option Value) (a : Addr) (op : Word → Word → Word) : Prop :=
  ∀ (A : Around) (E : Value → Shared → Prop) (s : Shared) (Q : Value → Shared → Prop) (l r : Value) (x y : Word), AOk A 60 → Base w mg mb s.heap → WordAt s.heap l x → WordAt s.heap r y → x.1.length ≤ 1000 → y.1.length ≤ 1000 →
    (∀ v s', WordAt s'.heap v (op x y) → Keeps s s' → Q v s') → wpAny (model prog w) A (call (.ref a) [l, r]) Q E s

set_option maxHeartbeats 4000000 in
theorem body_reduce {prog : Program} {w : World} {A : Around} {E : Value → Shared → Prop} {s : Shared} {mg mb : Str → Option Value} {env : Env} {L : Addr} {h₀ : Heap} {a D : Addr} {fd : FuncData} {ys : Array Value} {ws : List Word} {op : Word → Word → Word} {ini : Value} {wi : Option Word} {Q : Flow → Shared → Prop}
    (e : EnvOk env L (scopeOf (stmtAt 11))) (hA : AOk A 50) (B : Base w mg mb h₀) (F : Fr h₀ L s.heap (fun z => [((Str.ofString "function"), Value.ref a), ((Str.ofString "sequence"), .ref D), ((Str.ofString "initial"), ini)].reverse.lookup z))
    (hK : (hd.heap_39 w.params).lookup a = some ⟨.type "function", none, .func fd, #[]⟩) (hop : OpOk prog w mg mb a op)
    (hl : h₀.PlainList D ys) (hlen : ys.size = ws.length) (hys : ∀ (i : Nat) (y : Value) (x : Word), ys[i]? = some y → ws[i]? = some x → WordAt h₀ y x)
    (hi : match wi with | none => ini = Value.ref 68 ∧ ws ≠ [] | some x => WordAt h₀ ini x)
    (hsz : ys.size ≤ 1000) (hws : ∀ x ∈ ws, x.1.length ≤ 10) (hwi : ∀ x, wi = some x → x.1.length ≤ 10) (hopl : ∀ x y, (op x y).1.length ≤ x.1.length + y.1.length) (hws2 : ws.length ≤ 50)
    (h : ∀ v h' k, WordAt h' v (match wi with | none => ws.tail.foldl op (ws.headD ([], false, false, false)) | some x => ws.foldl op x) → (∀ b o, h₀.get? b = some o → h'.get? b = some o) → Q (.ret v) { s with heap := h', toks := k }) :
    wpAny (model prog w) A (execs (bodyOf (stmtAt 11)) env) Q E s := by
  -- the loop
  have loop : ∀ (k0 : Nat) (acc : Word) (val : Value) (I : Addr) (h₁ : Heap) (m₁ : Str → Option Value) (tk : Nat), k0 ≤ ws.length → acc.1.length ≤ 10 → WordAt h₁ val acc → Fr h₀ L h₁ m₁ → h₁.IsListIter I D k0 → h₀.get? I = none → I ≠ L →
      m₁ (Str.ofString "function") = some (.ref a) → m₁ (Str.ofString "it") = some (.ref I) → m₁ (Str.ofString "value") = some val →
      (∀ v h' k, WordAt h' v ((ws.drop k0).foldl op acc) → (∀ b o, h₀.get? b = some o → h'.get? b = some o) → Q (.ret v) { s with heap := h', toks := k }) →
      wpAny (model prog w) A (execs (match bodyOf (stmtAt 11) with | [_, _, l, r] => [l, r] | _ => []) env) Q E { s with heap := h₁, toks := tk } := by
    intro k0 acc val I h₁ m₁ tk hk0 hacc hval F₁ hit hIf hIL hmf hmi hmv hQ
    refine wpAny_execs_cons ?_
    refine wpAny_For ?_ (fun _ => rfl)
    repeat walk_at "ast"
    have hDI : D ≠ I := by
      rintro rfl
      obtain ⟨n, hn⟩ := hl
      rw [hn] at hIf; cases hIf
    have W := kun_shift (Walks.list (prog := prog) (w := w) (A := A) hA.handled I D hDI ys) (k := k0) (by omega)
    refine W.self 0 _ _ _ ⟨hit, (hl.at fun o e => F₁.keep _ _ e).isList⟩ ?_
    refine for_walk W (fun i s' => ∃ h' tk' m' val', s' = { s with heap := h', toks := tk' } ∧ Fr h₀ L h' m' ∧ h'.IsListIter I D (k0 + i) ∧ m' (Str.ofString "function") = some (.ref a) ∧ m' (Str.ofString "value") = some val' ∧
        WordAt h' val' (((ws.drop k0).take i).foldl op acc) ∧ (((ws.drop k0).take i).foldl op acc).1.length ≤ 10 + 10 * i) ?_ ?_ ?_ ?_
    · rintro i s' ⟨h', tk', m', val', rfl, F', hit', _⟩
      exact ⟨hit', (hl.at fun o e => F'.keep _ _ e).isList⟩
    · rintro i s' v h₂ tk₂ E' hin ⟨h', tk', m', val', rfl, F', hit', hmf', hmv', hw', hlw⟩ hv hst hk
      have hne : ∀ b o, h₀.get? b = some o → b ≠ I := fun b o e q => by rw [q, hIf] at e; cases e
      have F₂ : Fr h₀ L h₂ m' := ⟨F'.ns.at' fun o e => hk _ o (Ne.symm hIL) e, fun b o e => hk b o (hne b o e) (F'.keep b o e), F'.above⟩
      have hw₂ : WordAt h₂ val' _ := hw'.tup fun b o ht eb => hk b o (by
        rintro rfl
        obtain ⟨o', ho', hc', _⟩ := hit'
        rw [ho'] at eb; cases eb
        have := ht.1; rw [hc'] at this; simp at this) eb
      refine stL e F₂ (by rfl) fun h₃ F₃ hs₃ => ?_
      have hit₃ : h₃.IsListIter I D (k0 + (i + 1)) := hst.1.at fun o e => (hs₃.2 I hIL).trans e
      have hw₃ : WordAt h₃ val' _ := hw₂.tup fun b o ht eb => (hs₃.2 b (not_tup_ns F₂.ns eb ht)).trans eb
      have hmf₃ : (fun y => if y = Str.ofString "element" then some v else m' y) (Str.ofString "function") = some (.ref a) := hmf'
      have hmv₃ : (fun y => if y = Str.ofString "element" then some v else m' y) (Str.ofString "value") = some val' := hmv'
      refine wpAny_execs_cons ?_
      repeat walk_at "ast"
      refine cw_fn hK ?_
      repeat walk_at "ast"
      refine ⟨(B.keeps F₃.keep).k, ?_⟩
      have hlt : k0 + i < ws.length := by omega
      have hv' : ys[k0 + i]? = some v := hv
      have hwe : ws[k0 + i]? = some ws[k0 + i] := List.getElem?_eq_getElem hlt
      have hel := (hys _ _ _ hv' hwe).keeps F₃.keep
      refine hop _ _ _ _ _ _ _ _ (hA.mono (by omega)) (B.keeps F₃.keep) hw₃ hel (by omega) (by have := hws _ (List.getElem_mem hlt); omega) fun r s₄ hr hk₄ => ?_
      obtain ⟨h₄, k₄, rfl, hk₄⟩ := hk₄
      have F₄ := F₃.keeps hk₄
      refine stL e F₄ (by rfl) fun h₅ F₅ hs₅ => ?_
      dsimp only
      refine wpAny_execs_nil ?_
      dsimp only
      have hstep : ((ws.drop k0).take (i + 1)).foldl op acc = op (((ws.drop k0).take i).foldl op acc) ws[k0 + i] := by
        rw [List.take_add_one, List.getElem?_drop, hwe, List.foldl_append]
        rfl
      refine ⟨h₅, _, _, r, rfl, F₅, (hit₃.at fun o e => hk₄ _ o e).at fun o e => (hs₅.2 I hIL).trans e, hmf', rfl, ?_, ?_⟩
      · rw [hstep]
        exact hr.tup fun b o ht eb => (hs₅.2 b (not_tup_ns F₄.ns eb ht)).trans eb
      · rw [hstep]
        have h1 := hopl (((ws.drop k0).take i).foldl op acc) ws[k0 + i]
        have h2 := hws _ (List.getElem_mem hlt)
        omega
    · rintro s' h₂ tk₂ ⟨h', tk', m', val', rfl, F', hit', hmf', hmv', hw', hlw⟩ hk
      have hne : ∀ b o, h₀.get? b = some o → b ≠ I := fun b o e q => by rw [q, hIf] at e; cases e
      have F₂ : Fr h₀ L h₂ m' := ⟨F'.ns.at' fun o e => hk _ o (Ne.symm hIL) e, fun b o e => hk b o (hne b o e) (F'.keep b o e), F'.above⟩
      have hw₂ : WordAt h₂ val' _ := hw'.tup fun b o ht eb => hk b o (by
        rintro rfl
        obtain ⟨o', ho', hc', _⟩ := hit'
        rw [ho'] at eb; cases eb
        have := ht.1; rw [hc'] at this; simp at this) eb
      dsimp only
      repeat walk_at "ast"
      refine hQ val' h₂ tk₂ ?_ F₂.keep
      rw [List.take_of_length_le (by rw [List.length_drop]; omega)] at hw₂
      exact hw₂
    · exact ⟨h₁, _, m₁, val, rfl, F₁, hit, hmf, hmv, by simpa using hval, by simpa using hacc⟩
  refine wpAny_execs_cons ?_
  repeat walk_at "ast"
  refine call_iter_list (hl.at fun o e => F.keep _ _ e).isList ?_
  have hIf : h₀.get? s.heap.objs.size = none := by
    cases q : h₀.get? s.heap.objs.size with
    | none => rfl
    | some o => exact absurd (Heap.lt_size (F.keep _ _ q)) (Nat.lt_irrefl _)
  have hIL : s.heap.objs.size ≠ L := by
    obtain ⟨_, _, _, ho, _⟩ := F.ns
    exact Nat.ne_of_gt (Heap.lt_size ho)
  have F₀ := F.push { cls := .type "list_iterator", data := .fields #[.ref D, .int 0 0] }
  refine stL e F₀ (by rfl) fun h₁ F₁ hs₁ => ?_
  have hit₁ : h₁.IsListIter s.heap.objs.size D 0 := ⟨_, (hs₁.2 _ hIL).trans (Heap.get?_push_size _ rfl), rfl, rfl⟩
  generalize s.heap.objs.size = I at *
  dsimp only
  clear F F₀
  refine wpAny_execs_cons ?_
  repeat walk_at "ast"
  cases wi with
  | none =>
    obtain ⟨rfl, hne⟩ := hi
    refine wpAny_is_ref_self ?_
    repeat walk_at "ast"
    refine ite_tt ?_
    repeat walk_at "ast"
    refine wpAny_Try_except ?_
    repeat walk_at "ast"
    obtain ⟨x0, wr, rfl⟩ : ∃ x r, ws = x :: r := by
      cases ws with
      | nil => exact absurd rfl hne
      | cons x r => exact ⟨x, r, rfl⟩
    obtain ⟨y0, hy0⟩ : ∃ y0, ys[0]? = some y0 := ⟨ys[0]'(by rw [hlen]; simp), Array.getElem?_eq_getElem (by rw [hlen]; simp)⟩
    have hw0 := hys 0 _ x0 hy0 rfl
    refine call_next_list hit₁ (hl.at fun o e => F₁.keep _ _ e).isList hy0 fun h₂ hit₂ hs₂ => ?_
    have hne : ∀ b o, h₀.get? b = some o → b ≠ I := fun b o e q => by rw [q, hIf] at e; cases e
    have F₂ : Fr h₀ L h₂ _ := ⟨F₁.ns.sameBut hs₂ (Ne.symm hIL), fun b o e => (hs₂.2 b (hne b o e)).trans (F₁.keep b o e), F₁.above⟩
    refine stL e F₂ (by rfl) fun h₃ F₃ hs₃ => ?_
    dsimp only
    repeat with_reducible refine wpAny_execs_nil ?_
    refine loop 1 x0 y0 I h₃ _ _ (by simp) (hws x0 (by simp)) (hw0.keeps F₃.keep) F₃ (hit₂.at fun o e => (hs₃.2 I hIL).trans e) hIf hIL rfl rfl rfl ?_
    intro v h' k hv hk
    exact h v h' k hv hk
  | some x0 =>
    have hw0 : WordAt h₀ ini x0 := hi
    obtain ⟨ia, it', nn, rfl, hia⟩ := id hw0
    have h68 := (B.keeps F₁.keep).k 68 _ rfl
    refine wpAny_bind (m := isSame (.ref ia) (.ref 68)) (PySem.SeqAt.wpAny_isSame_ref_other' ?_ (F₁.keep _ _ hia) h68 (by simp) (wpAny_pure ?_))
    · rintro rfl
      have := B.k 68 _ rfl
      rw [hia] at this
      have hc := congrArg (fun o : Option Obj => o.map (·.cls)) this
      simp at hc
    repeat walk_at "ast"
    refine ite_ff ?_
    repeat walk_at "ast"
    refine stL e F₁ (by rfl) fun h₃ F₃ hs₃ => ?_
    dsimp only
    repeat with_reducible refine wpAny_execs_nil ?_
    refine loop 0 x0 (.ref ia) I h₃ _ _ (Nat.zero_le _) (hwi x0 rfl) (hw0.keeps F₃.keep) F₃ (hit₁.at fun o e => (hs₃.2 I hIL).trans e) hIf hIL rfl rfl rfl ?_
    intro v h' k hv hk
    exact h v h' k hv hk


theorem op_joined {prog : Program} {w : World} {mg mb : Str → Option Value} : OpOk prog w mg mb 102 joined :=
  fun _ _ _ _ _ _ _ _ hA B hl hr hx hy h => call_joined hA (by omega) B hl hr hx hy h
theorem op_put {prog : Program} {w : World} {mg mb : Str → Option Value} : OpOk prog w mg mb 109 (fun x y => joined y x) :=
  fun _ _ _ _ _ _ _ _ hA B hl hr hx hy h => call_put hA (by omega) B hl hr hx hy h

/-- reduce(_law_joined, singles) -/
theorem call_reduce1 {prog : Program} {w : World} {A : Around} {E : Value → Shared → Prop} {s : Shared} {mg mb : Str → Option Value} {D : Addr} {ys : Array Value} {ws : List Word} {Q : Value → Shared → Prop} {n : Nat}
    (hA : AOk A n) (hn : n < 50) (B : Base w mg mb s.heap) (hl : s.heap.PlainList D ys) (hlen : ys.size = ws.length) (hys : ∀ (i : Nat) (y : Value) (x : Word), ys[i]? = some y → ws[i]? = some x → WordAt s.heap y x)
    (hne : ws ≠ []) (hws : ∀ x ∈ ws, x.1.length ≤ 10) (hws2 : ws.length ≤ 50)
    (h : ∀ v s', WordAt s'.heap v (ws.tail.foldl joined (ws.headD ([], false, false, false))) → Keeps s s' → Q v s') : wpAny (model prog w) A (call (.ref 76) [.ref 102, .ref D]) Q E s := by
  refine call_fd (body := bodyOf (stmtAt 11)) (binds := [((Str.ofString "function"), Value.ref 102), ((Str.ofString "sequence"), .ref D), ((Str.ofString "initial"), .ref 68)]) hA (by omega) B (fn_reduce _) rfl (cd_reduce _)
    (.of_defaults (T := 69) rfl (B.k 69 _ rfl) rfl rfl (by kernel_rfl)) (by decide) ?_ rfl rfl rfl rfl rfl ?_
  · intro x hx
    rcases List.mem_cons.mp hx with rfl | hx
    · rfl
    · rcases List.mem_cons.mp hx with rfl | hx
      · rfl
      · rw [List.mem_singleton.mp hx]; rfl
  · intro env h₁ E' e F hA'
    exact body_reduce (wi := none) e (hA'.mono (by omega)) B F (fn_joined _) op_joined hl hlen hys ⟨rfl, hne⟩ (by omega) hws (fun x hx => nomatch hx) joined_len hws2 fun v h' k hv hk => h v _ hv ⟨h', k, rfl, hk⟩

/-- reduce(_law_put_ahead, .., the last) -/
theorem call_reduce2 {prog : Program} {w : World} {A : Around} {E : Value → Shared → Prop} {s : Shared} {mg mb : Str → Option Value} {D : Addr} {ys : Array Value} {ws : List Word} {ini : Value} {x0 : Word} {Q : Value → Shared → Prop} {n : Nat}
    (hA : AOk A n) (hn : n < 50) (B : Base w mg mb s.heap) (hl : s.heap.PlainList D ys) (hlen : ys.size = ws.length) (hys : ∀ (i : Nat) (y : Value) (x : Word), ys[i]? = some y → ws[i]? = some x → WordAt s.heap y x)
    (hi : WordAt s.heap ini x0) (hws : ∀ x ∈ ws, x.1.length ≤ 10) (hx0 : x0.1.length ≤ 10) (hws2 : ws.length ≤ 50)
    (h : ∀ v s', WordAt s'.heap v (ws.foldl (fun x y => joined y x) x0) → Keeps s s' → Q v s') : wpAny (model prog w) A (call (.ref 76) [.ref 109, .ref D, ini]) Q E s := by
  refine call_fd (body := bodyOf (stmtAt 11)) (binds := [((Str.ofString "function"), Value.ref 109), ((Str.ofString "sequence"), .ref D), ((Str.ofString "initial"), ini)]) hA (by omega) B (fn_reduce _) rfl (cd_reduce _)
    (.of_defaults (T := 69) rfl (B.k 69 _ rfl) rfl rfl (by kernel_rfl)) (by decide) ?_ rfl rfl rfl rfl rfl ?_
  · intro x hx
    rcases List.mem_cons.mp hx with rfl | hx
    · rfl
    · rcases List.mem_cons.mp hx with rfl | hx
      · rfl
      · rw [List.mem_singleton.mp hx]; rfl
  · intro env h₁ E' e F hA'
    refine body_reduce (wi := some x0) e (hA'.mono (by omega)) B F (fn_put _) op_put hl hlen hys hi (by omega) hws (fun x hx => by cases hx; exact hx0) (fun x y => by have := joined_len y x; omega) hws2 fun v h' k hv hk => h v _ hv ⟨h', k, rfl, hk⟩
end Mine

end

section
namespace Mine
open PySem PySem.W PySem.Calls PyProof.Rows
set_option maxRecDepth 100000
local macro_rules | `(tactic| walk_at "gname") => `(tactic| first
  | with_reducible exact g_law_joined _
  | with_reducible exact g_law_single _
  | with_reducible exact g_law_word _
  | with_reducible exact g_law_text _
  | with_reducible exact g_law_put_ahead _
  | with_reducible exact g_reduce _
  | with_reducible exact g_fix_eols _
  | with_reducible exact g_quote_periods _
  | with_reducible exact g_quotedata _
  | with_reducible exact g_CRLF _
  | with_reducible exact g_twin_re_1 _
  | with_reducible exact g_twin_re_2 _
  | with_reducible exact g_twin_re_3 _
  | with_reducible exact g_initial_missing _)
local macro_rules | `(tactic| walk_at "gnone") => `(tactic| first
  | with_reducible exact gn_range _
  | with_reducible exact gn_len _
  | with_reducible exact gn_ord _
  | with_reducible exact gn_chr _
  | with_reducible exact gn_bytes _
  | with_reducible exact gn_sum _
  | with_reducible exact gn_iter _
  | with_reducible exact gn_next _
  | with_reducible exact gn_enumerate _)
local macro_rules | `(tactic| walk_at "bname") => `(tactic| first
  | with_reducible exact b_range
  | with_reducible exact b_len
  | with_reducible exact b_ord
  | with_reducible exact b_chr
  | with_reducible exact b_bytes
  | with_reducible exact b_sum
  | with_reducible exact b_iter
  | with_reducible exact b_next
  | with_reducible exact b_enumerate)
local macro_rules | `(tactic| walk_at "ast") => `(tactic| first
  | with_reducible refine wpAny_execs_cons ?_
  | with_reducible refine wpAny_execs_nil ?_
  | ((with_reducible refine wpAny_Assign_Name ?_ ?p1); (case p1 => rfl))
  | with_reducible refine wpAny_If ?_
  | with_reducible refine wpAny_Return_some ?_
  | with_reducible refine isTrue_and ?_
  | with_reducible refine isTrue_and_nil ?_
  | with_reducible refine wpAny_isTrue_Compare1 ?_
  | with_reducible refine wpAny_Compare1 ?_
  | with_reducible refine wpAny_IfExp ?_
  | ((with_reducible show wpAny _ _ (PySem.isTrue (Expr.Subscript _ _ _) _ _) _ _ _); refine isTrue_plain ?_ (by rfl))
  | with_reducible refine Subscript_ ?_
  | with_reducible refine wpAny_Constant_int ?_
  | with_reducible refine wpAny_Constant_str ?_
  | with_reducible refine wpAny_Constant_bool ?_
  | with_reducible refine wpAny_Constant_none ?_
  | with_reducible refine wpAny_Slice ?_
  | with_reducible refine evalPart_none_step ?_
  | with_reducible refine evalPart_some_step ?_
  | with_reducible refine wpAny_UnaryOp ?_
  | with_reducible refine neg_int ?_
  | with_reducible refine wpAny_BinOp ?_
  | with_reducible refine wpAny_Tuple ?_
  | ((with_reducible show wpAny _ _ (spliced (backTo _ (starEach (_ :: _) _))) _ _ _); refine wpAny_items_cons ?_)
  | ((with_reducible show wpAny _ _ (spliced (backTo _ (starEach [] _))) _ _ _); refine wpAny_items_nil ?_)
  | with_reducible refine wpAny_truthy_bool ?_
  | with_reducible refine PySem.P.eq_str ?_
  | with_reducible refine PySem.P.ne_str ?_
  | with_reducible refine PySem.P.in_str ?_
  | ((with_reducible show wpAny _ _ (eval (Expr.Call (Expr.Name _ _) _ [] _) _) _ _ _); refine Call_ ?_)
  | ((with_reducible show wpAny _ _ (callWith _ (Value.builtin _) [] (backTo _ (starEach (_ :: _) _)) []) _ _ _); refine PyProof.Rows.callWith_builtin1 ?_)
  | ((with_reducible show wpAny _ _ (eval (Expr.Name _ _) _) _ _ _); refine nmL (by first | assumption | exact EnvOk.comp (by assumption) _ rfl _ _) (by assumption) (by rfl) (by first | assumption | rfl) ?_ (by decide))
  | ((with_reducible show wpAny _ _ (eval (Expr.Name _ _) _) _ _ _); refine nmG (by first | assumption | exact EnvOk.comp (by assumption) _ rfl _ _) (Base.keeps (by assumption) (Fr.keep (by assumption))) (by rfl) (by walk_at "gname") ?_ (by decide))
  | ((with_reducible show wpAny _ _ (eval (Expr.Name _ _) _) _ _ _); refine nmB (by first | assumption | exact EnvOk.comp (by assumption) _ rfl _ _) (Base.keeps (by assumption) (Fr.keep (by assumption))) (by rfl) (by walk_at "gnone") (by walk_at "bname") (by decide) ?_ (by decide))
  | ((with_reducible show wpAny _ _ (subscriptTail _ _ (Value.ref _) (Value.int _ _)) _ _ _); refine word_item (by assumption) (by assumption) (by rfl) (by rfl) (by decide) (by decide) ?_ (by rfl)))

section
variable {prog : Program} {w : World} {A : Around} {E : Value → Shared → Prop} {s : Shared}

theorem ldL {env : Env} {L : Addr} {sc : Scope} {h₀ : Heap} {m : Str → Option Value} {x : Str} {v : Value} {Q : Value → Shared → Prop} (e : EnvOk env L sc) (F : Fr h₀ L s.heap m) (hx : sc.names.lookup x = some .local) (hv : m x = some v) (h : Q v s) :
    wpAny (model prog w) A (loadName env x) Q E s := wpAny_loadName_local e.kind ((e.kinds x).trans hx) (e.loc.symm ▸ F.ns) hv h

/-- a for over enumerate(a list) -/
theorem for_enum {env : Env} {L : Addr} {sc : Scope} {h₀ : Heap} {m : Str → Option Value} {R : Result → Shared → Prop} {xi xv : Str} {pi pv pt : Pos} {x1 : Nat} {body : List Stmt} {en it l : Addr} {items : Array Value}
    (hh : A.handled = none) (e : EnvOk env L sc) (hxi : sc.names.lookup xi = some .local) (hxv : sc.names.lookup xv = some .local)
    (hei : en ≠ it) (heL : en ≠ L) (hiL : it ≠ L) (hlL : l ≠ L) (hle : l ≠ en) (hli : l ≠ it) (h0e : h₀.get? en = none) (h0i : h₀.get? it = none)
    (he : IsEnum s.heap en it 0 .none) (hit : s.heap.IsListIter it l 0) (hl : s.heap.IsList l items) (F : Fr h₀ L s.heap m) (J : Nat → (Str → Option Value) → Prop) (h0 : J 0 m)
    (step : ∀ i v tk m₁ s₁ E', items[i]? = some v → J i m₁ → Fr h₀ L s₁.heap (fun y => if y = xv then some v else if y = xi then some (.int i tk) else m₁ y) →
      wpAny (model prog w) A (execs body env) (fun f s₂ => f = .next ∧ ∃ h' tk' m₂, s₂ = { s₁ with heap := h', toks := tk' } ∧ h'.Ns L m₂ ∧ J (i + 1) m₂ ∧ ∀ b o, b ≠ L → s₁.heap.get? b = some o → h'.get? b = some o) E' s₁)
    (hR : ∀ h' tk m', Fr h₀ L h' m' → J items.size m' → R (.ok .next) { s with heap := h', toks := tk }) :
    codeAny (model prog w) A (.forLoop (.Tuple [.Name xi pi, .Name xv pv] x1 pt) (.ref en) body [] env) R s := by
  have hp : (env.scope.kind == .class || (env.scope.kind == .module && env.locals != env.globals)) = false := by rw [e.kind]; rfl
  have nex : ∀ b o, h₀.get? b = some o → b ≠ en ∧ b ≠ it := fun b o q => ⟨fun z => (by rw [z, h0e] at q; cases q), fun z => (by rw [z, h0i] at q; cases q)⟩
  refine codeAny_forLoop_any
    (fun k s' => ∃ h' tk m' i old, s' = { s with heap := h', toks := tk } ∧ IsEnum h' en it ((i : Nat) : Int) old ∧ h'.IsListIter it l i ∧ h'.IsList l items ∧ Fr h₀ L h' m' ∧ J i m' ∧ i ≤ items.size ∧ k = items.size + 1 - i) ?_ (items.size + 1)
    ⟨s.heap, s.toks, m, 0, .none, rfl, he, hit, hl, F, h0, Nat.zero_le _, rfl⟩
  rintro k s' ⟨H, tk, m', i, old, rfl, he', hit', hl', F', hJ, hi, rfl⟩
  have hLH : L < H.objs.size := F'.ns.lt
  have heH : en < H.objs.size := Heap.lt_size he'
  obtain ⟨oi, hoi, _⟩ := id hit'
  obtain ⟨ol, hol, _⟩ := id hl'
  have hiH : it < H.objs.size := Heap.lt_size hoi
  have hlH : l < H.objs.size := Heap.lt_size hol
  cases hv : items[i]? with
  | none =>
    have hsz : i = items.size := Nat.le_antisymm hi (by simpa using hv)
    refine wpAny_pyNext_enum_end hh he' hit' hl' hv fun h₁ he₁ => wpAny_execs_nil ?_
    exact hR h₁ tk m' ⟨F'.ns.extBut he₁ (Ne.symm hiL), fun b o q => he₁ b o (nex b o q).2 (F'.keep b o q), F'.above⟩ (hsz ▸ hJ)
  | some v =>
    have hlt : i < items.size := (Array.getElem?_eq_some_iff.mp hv).1
    refine wpAny_pyNext_enum_item he' hit' hl' hv hei fun h₁ heo hit₁ ht₁ hz₁ hk₁ => ?_
    refine wpAny_letOwnedTupleGo_enum heo fun h₂ he₂ hs₂ => ?_
    replace hs₂ : Heap.SameBut en h₁ h₂ := hs₂
    have ht₂ : h₂.IsTuple H.objs.size #[.int i tk, v] := ⟨_, (hs₂.2 _ (Nat.ne_of_gt heH)).trans ht₁, rfl, _, rfl⟩
    have hz₂ : h₂.objs.size = H.objs.size + 1 := hs₂.1.trans hz₁
    refine wpAny_assign_Tuple hh ht₂ rfl rfl fun h₃ hx₃ => ?_
    replace hx₃ : Heap.ExtBut h₂.objs.size h₂ h₃ := hx₃
    have old₃ : ∀ b o, b < H.objs.size → h₂.get? b = some o → h₃.get? b = some o := fun b o hb x => hx₃ b o (by rw [hz₂]; exact Nat.ne_of_lt (Nat.lt_succ_of_lt hb)) x
    have up₃ : ∀ b o, b ≠ en → b ≠ it → H.get? b = some o → h₃.get? b = some o := fun b o hbe hbi x => old₃ b o (Heap.lt_size x) (hs₂.extBut b o hbe (hk₁ b o hbe hbi x))
    have F₃ : Fr h₀ L h₃ m' := ⟨F'.ns.at' fun o x => up₃ L o (Ne.symm heL) (Ne.symm hiL) x, fun b o q => up₃ b o (nex b o q).1 (nex b o q).2 (F'.keep b o q), F'.above⟩
    show wpAny _ A (do holding [v] (assign (.Name xi pi) env (.int i tk)); do holding [] (assign (.Name xv pv) env v); pure ()) _ _ _
    refine wpAny_bind (wpAny_holding (wpAny_assign_Name (stL e F₃ hxi fun h₄ F₄ hs₄ => ?_)))
    replace hs₄ : Heap.SameBut L h₃ h₄ := hs₄
    refine wpAny_bind (wpAny_holding (wpAny_assign_Name (stL e F₄ hxv fun h₅ F₅ hs₅ => wpAny_pure ?_)))
    replace hs₅ : Heap.SameBut L h₄ h₅ := hs₅
    refine wpAny_mono (step i v tk m' _ _ hv hJ F₅) (fun f s₃ h₆ => ?_) fun _ _ x => x
    obtain ⟨rfl, h₆, tk₆, m₂, rfl, hn₆, hJ₆, hk₆⟩ := h₆
    have up : ∀ b o, b ≠ L → b < H.objs.size → h₂.get? b = some o → h₆.get? b = some o := fun b o hbL hb x =>
      hk₆ b o hbL (hs₅.extBut b o hbL (hs₄.extBut b o hbL (old₃ b o hb x)))
    refine ⟨items.size + 1 - (i + 1), by omega, h₆, tk₆, m₂, i + 1, v, rfl, ?_, ?_, ?_, ?_, hJ₆, hlt, rfl⟩
    · have : ((i + 1 : Nat) : Int) = (i : Int) + 1 := by push_cast; rfl
      rw [this]; exact up en _ heL heH he₂
    · exact (hit₁.extBut hs₂.extBut (Ne.symm hei)).at fun o x => up it o hiL hiH x
    · exact ((hl'.at fun o x => hk₁ l o hle hli x).extBut hs₂.extBut hle).at fun o x => up l o hlL hlH x
    · exact ⟨hn₆, fun b o q => hk₆ b o (Nat.ne_of_lt (Nat.lt_of_lt_of_le (Heap.lt_size q) F'.above)) (F₅.keep b o q), F'.above⟩

/-- the sum of a list of ints -/
theorem call_sum {D : Addr} {items : Array Value} {Q : Value → Shared → Prop} (hh : A.handled = none) (hl : s.heap.IsList D items) (hi : ∀ v ∈ items, ∃ n t, v = Value.int n t)
    (h : ∀ n t h' k, (∀ b o, s.heap.get? b = some o → h'.get? b = some o) → Q (.int n t) { s with heap := h', toks := k }) : wpAny (model prog w) A (call (.builtin "sum") [.ref D]) Q E s := by
  refine call_sum_walkG (wpAny_pyIter_list hl ?_)
  have hD : D ≠ s.heap.objs.size := by
    obtain ⟨o, ho, _⟩ := hl
    exact Nat.ne_of_lt (Heap.lt_size ho)
  refine ⟨_, _, _, _, _, _, fun i => match items[i]? with | some (.int n _) => n | _ => 0, rfl, Walks.list (A := A.in1) hh s.heap.objs.size D hD items, ⟨⟨_, Heap.get?_push_size _ rfl, rfl, rfl⟩, hl.push _⟩, ?_, ?_, ?_⟩
  · intro b hb
    rw [Heap.size_push]
    rcases List.mem_cons.mp hb with rfl | hb
    · exact Nat.lt_succ_self _
    · rw [List.mem_singleton.mp hb]
      obtain ⟨o, ho, _⟩ := hl
      exact Nat.lt_succ_of_lt (Heap.lt_size ho)
  · intro i v hv
    obtain ⟨hlt, e⟩ := Array.getElem?_eq_some_iff.mp hv
    obtain ⟨n, t, rfl⟩ := hi v (e ▸ Array.getElem_mem hlt)
    exact ⟨t, by simp only [hv]⟩
  · intro h' tk t' hk
    exact h _ _ h' tk fun b o e => hk b o (by
      intro hb
      rw [List.mem_singleton.mp hb] at e
      exact Nat.lt_irrefl _ (Heap.lt_size e)) (Heap.get?_push_of_some _ e)
end

theorem enum_loop {prog : Program} {w : World} {A : Around} {E : Value → Shared → Prop} {s : Shared} {env : Env} {L : Addr} {sc : Scope} {h₀ : Heap} {m : Str → Option Value} {R : Result → Shared → Prop} {xi xv : Str} {pi pv pt : Pos} {x1 : Nat} {body : List Stmt} {l : Addr} {items : Array Value} {nn : Nat}
    (hh : A.handled = none) (e : EnvOk env L sc) (hxi : sc.names.lookup xi = some .local) (hxv : sc.names.lookup xv = some .local)
    (hl : s.heap.get? l = some { cls := .type "list", dict := none, data := .seq items nn, slots := #[] }) (F : Fr h₀ L s.heap m) (hlL : l ≠ L) (J : Nat → (Str → Option Value) → Prop) (h0 : J 0 m)
    (step : ∀ i v tk m₁ s₁ E', items[i]? = some v → J i m₁ → Fr h₀ L s₁.heap (fun y => if y = xv then some v else if y = xi then some (.int i tk) else m₁ y) →
      wpAny (model prog w) A (execs body env) (fun f s₂ => f = .next ∧ ∃ h' tk' m₂, s₂ = { s₁ with heap := h', toks := tk' } ∧ h'.Ns L m₂ ∧ J (i + 1) m₂ ∧ ∀ b o, b ≠ L → s₁.heap.get? b = some o → h'.get? b = some o) E' s₁)
    (hR : ∀ h' tk m', Fr h₀ L h' m' → J items.size m' → R (.ok .next) { s with heap := h', toks := tk }) :
    wpAny (model prog w) A (call (.type "enumerate") [.ref l]) (fun xv' s₁ => wpAny (model prog w) A (pyIter xv') (fun it s₂ => codeAny (model prog w) A (.forLoop (.Tuple [.Name xi pi, .Name xv pv] x1 pt) it body [] env) R s₂) E s₁) E s := by
  have hlt : l < s.heap.objs.size := Heap.lt_size hl
  have hLt : L < s.heap.objs.size := F.ns.lt
  have fresh : ∀ a, s.heap.objs.size ≤ a → h₀.get? a = none := fun a ha => by
    cases q : h₀.get? a with
    | none => rfl
    | some o => exact absurd (Heap.lt_size (F.keep _ _ q)) (Nat.not_lt.mpr ha)
  have nn1 : ∀ a b : Nat, a < b → a ≠ b := fun a b h => Nat.ne_of_lt h
  refine call_enumerate_1 hl fun h₃ he hit hz hk₃ => wpAny_pyIter_enum he ?_
  exact for_enum (m := m) hh e hxi hxv (Ne.symm (nn1 _ _ (Nat.lt_succ_self _))) (Ne.symm (nn1 _ _ (Nat.lt_succ_of_lt hLt))) (Ne.symm (nn1 _ _ hLt)) hlL (nn1 _ _ (Nat.lt_succ_of_lt hlt)) (nn1 _ _ hlt) (fresh _ (Nat.le_succ _)) (fresh _ (Nat.le_refl _))
    he hit ⟨_, hk₃ _ _ hl, rfl, nn, rfl⟩ (F.keeps hk₃) J h0 step hR

theorem mem_slicePick {items : Array Value} {lo hi st : Option Int} {v : Value} (h : v ∈ slicePick items lo hi st) : v ∈ items := by
  unfold slicePick at h
  rw [List.mem_toArray, List.mem_filterMap] at h
  obtain ⟨i, _, hi⟩ := h
  obtain ⟨hlt, e⟩ := Array.getElem?_eq_some_iff.mp hi
  exact e ▸ Array.getElem_mem hlt

/-- a text of the law's -/
def TextOk (lo hi : Nat) (x : Str) : Prop := lo ≤ x.cps.size ∧ x.cps.size ≤ hi ∧ ∀ c ∈ x.cps.toList, c < 256

theorem pick6 {a b c d e f : Value} {k : Int} (h0 : 0 ≤ k) (h6 : k < 6) (P : Value → Prop) (ha : P a) (hb : P b) (hc : P c) (hd : P d) (he : P e) (hf : P f) : ∃ v, ([a, b, c, d, e, f].toArray)[k.toNat]? = some v ∧ P v := by
  have : k = 0 ∨ k = 1 ∨ k = 2 ∨ k = 3 ∨ k = 4 ∨ k = 5 := by omega
  rcases this with rfl | rfl | rfl | rfl | rfl | rfl
  · exact ⟨a, rfl, ha⟩
  · exact ⟨b, rfl, hb⟩
  · exact ⟨c, rfl, hc⟩
  · exact ⟨d, rfl, hd⟩
  · exact ⟨e, rfl, he⟩
  · exact ⟨f, rfl, hf⟩

theorem menu_ok1 (t : Tok) : ∃ (y : Str) (t' : Tok), Value.str (Str.ofString ".") t = Value.str y t' ∧ 1 ≤ y.cps.size ∧ y.cps.size ≤ 2 ∧ ∀ c ∈ y.cps.toList, c < 256 := ⟨_, _, rfl, by decide, by decide, by decide⟩
theorem menu_ok2 (t : Tok) : ∃ (y : Str) (t' : Tok), Value.str (Str.ofString "\r") t = Value.str y t' ∧ 1 ≤ y.cps.size ∧ y.cps.size ≤ 2 ∧ ∀ c ∈ y.cps.toList, c < 256 := ⟨_, _, rfl, by decide, by decide, by decide⟩
theorem menu_ok3 (t : Tok) : ∃ (y : Str) (t' : Tok), Value.str (Str.ofString "\n") t = Value.str y t' ∧ 1 ≤ y.cps.size ∧ y.cps.size ≤ 2 ∧ ∀ c ∈ y.cps.toList, c < 256 := ⟨_, _, rfl, by decide, by decide, by decide⟩
theorem menu_ok4 (t : Tok) : ∃ (y : Str) (t' : Tok), Value.str (Str.ofString "\r\n") t = Value.str y t' ∧ 1 ≤ y.cps.size ∧ y.cps.size ≤ 2 ∧ ∀ c ∈ y.cps.toList, c < 256 := ⟨_, _, rfl, by decide, by decide, by decide⟩
theorem menu_ok5 (t : Tok) : ∃ (y : Str) (t' : Tok), Value.str (Str.ofString "..") t = Value.str y t' ∧ 1 ≤ y.cps.size ∧ y.cps.size ≤ 2 ∧ ∀ c ∈ y.cps.toList, c < 256 := ⟨_, _, rfl, by decide, by decide, by decide⟩
theorem menu_item {prog : Program} {w : World} {A : Around} {E : Value → Shared → Prop} {s : Shared} {value slice : Expr} {D : Addr} {h : Heap} {a b c d e f : Value} {k : Int} {u : Tok} {Q : Value → Shared → Prop} (h0 : 0 ≤ k) (h6 : k < 6) (P : Value → Prop)
    (ha : P a) (hb : P b) (hc : P c) (hd : P d) (he : P e) (hf : P f) (hH : s.heap = h.push { cls := .type "list", data := .seq [a, b, c, d, e, f].toArray }) (hD : D = h.objs.size)
    (hs : subscripted slice false (.ref D) (.int k u) = operate [.ref D, .int k u] (getItem (.ref D) (.int k u)))
    (hQ : ∀ v, P v → Q v s) : wpAny (model prog w) A (subscriptTail value slice (.ref D) (.int k u)) Q E s := by
  obtain ⟨v, hv, hP⟩ := pick6 h0 h6 P ha hb hc hd he hf
  have hl : s.heap.IsList D [a, b, c, d, e, f].toArray := by rw [hH, hD]; exact ⟨_, Heap.get?_push_size _ rfl, rfl, _, rfl⟩
  exact tail_any (T := "list") hl.typeIs list_getitem_lookup (wpAny_getItem_list hl h0 (by omega) hv (hQ v hP)) hs

set_option maxHeartbeats 1000000 in
theorem turn_text {prog : Program} {w : World} {A : Around} {E : Value → Shared → Prop} {s : Shared} {mg mb : Str → Option Value} {env : Env} {L S : Addr} {h₀ : Heap} {vs : Array Value} {m₁ : Str → Option Value} {i : Nat} {tk : Tok} {n₀ : Int} {t₀ : Tok} {x : Str} {tx : Tok}
    (e : EnvOk env L (scopeOf (stmtAt 13))) (hA : AOk A 30) (B : Base w mg mb h₀) (hS : h₀.IsList S vs) (hvs : ∀ v ∈ vs, ∃ n t, v = Value.int n t) (hsz : vs.size ≤ 1000)
    (hms : m₁ (Str.ofString "script") = some (.ref S)) (hmt : m₁ (Str.ofString "text") = some (.str x tx)) (hx : TextOk i (2 * i) x) (hi : i ≤ 10)
    (F : Fr h₀ L s.heap (fun y => if y = Str.ofString "own" then some (.int n₀ t₀) else if y = Str.ofString "place" then some (.int i tk) else m₁ y)) :
    wpAny (model prog w) A (execs (match bodyOf (stmtAt 13) with | [_, .For _ _ b _ _, _] => b | _ => []) env) (fun f s₂ => f = .next ∧ ∃ h' tk' m₂, s₂ = { s with heap := h', toks := tk' } ∧ h'.Ns L m₂ ∧
      (m₂ (Str.ofString "script") = some (.ref S) ∧ ∃ x tx, m₂ (Str.ofString "text") = some (.str x tx) ∧ TextOk (i + 1) (2 * (i + 1)) x) ∧ ∀ b o, b ≠ L → s.heap.get? b = some o → h'.get? b = some o) E s := by
  have hms' : (fun y => if y = Str.ofString "own" then some (.int n₀ t₀) else if y = Str.ofString "place" then some (.int i tk) else m₁ y) (Str.ofString "script") = some (Value.ref S) := hms
  refine wpAny_execs_cons ?_
  repeat walk_at "ast"
  have hSp : ∀ ob : Obj, (s.heap.push ob).IsList S vs := fun ob => hS.at fun o e => Heap.get?_push_of_some _ (F.keep _ _ e)
  refine tail_any (T := "list") (hSp _).typeIs list_getitem_lookup (wpAny_getItem_list_slice (hSp _) (Heap.IsSliceOf.new ..) (.int _ _) .none (.int _ _) (by simp) ?_ (by rw [sizeLine_eq]; omega)) rfl
  repeat walk_at "ast"
  refine call_sum hA.handled ⟨_, Heap.get?_push_size _ rfl, rfl, _, rfl⟩ (fun v hv => hvs v (mem_slicePick hv)) fun sm ts h₂ k₂ hk₂ => ?_
  have hkp : ∀ b o, s.heap.get? b = some o → h₂.get? b = some o := fun b o e => hk₂ b o (Heap.get?_push_of_some _ (Heap.get?_push_of_some _ e))
  have F₂ := F.keeps hkp
  refine PyProof.Rows.add_int ?_
  refine stL e F₂ (by rfl) fun h₃ F₃ hs₃ => ?_
  dsimp only
  refine wpAny_execs_cons ?_
  refine wpAny_AugAssign_Name ?_
  refine ldL e F₃ (by rfl) hmt ?_
  refine Subscript_ ?_
  refine wpAny_List ?_
  repeat walk_at "ast"
  refine PyProof.Rows.floordiv_int (by decide) ?_ (Or.inl (PyProof.noPylong_small (by decide)))
  refine PyProof.Rows.add_int ?_
  repeat walk_at "ast"
  refine PyProof.Rows.mod_int (by decide) ?_
  have hm0 : ∀ z : Int, 0 ≤ z.fmod 256 ∧ z.fmod 256 < 256 := fun z => ⟨Int.fmod_nonneg_of_pos z (by decide), Int.fmod_lt_of_pos z (by decide)⟩
  repeat walk_at "ast"
  refine PyProof.Rows.chr_of_range (hm0 _).1 (Int.le_of_lt (Int.lt_of_lt_of_le (hm0 _).2 (by decide))) ?_
  repeat walk_at "ast"
  refine ⟨by show 6 ≤ sizeLine; rw [sizeLine_eq]; decide, ?_⟩
  dsimp only
  refine wpAny_BinOp ?_
  refine nmL e (Fr.push F₃ _) (by rfl) (by rfl) ?_ (by decide)
  refine wpAny_Constant_int ?_
  refine PyProof.Rows.mod_int (by decide) ?_
  have h60 : ∀ z : Int, 0 ≤ z.fmod 6 ∧ z.fmod 6 < 6 := fun z => ⟨Int.fmod_nonneg_of_pos z (by decide), Int.fmod_lt_of_pos z (by decide)⟩
  have hp6 : ∀ (z : Int) (t : Tok), ∃ (y : Str) (t' : Tok), Value.str ⟨#[(z.fmod 256).toNat]⟩ t = Value.str y t' ∧ 1 ≤ y.cps.size ∧ y.cps.size ≤ 2 ∧ ∀ c ∈ y.cps.toList, c < 256 := by
    intro z t
    refine ⟨_, _, rfl, by simp, by simp, fun c hc => ?_⟩
    have : c = (z.fmod 256).toNat := by simpa using hc
    have h2 := hm0 z
    omega
  refine menu_item (h60 _).1 (h60 _).2 (fun v => ∃ (y : Str) (t : Tok), v = Value.str y t ∧ 1 ≤ y.cps.size ∧ y.cps.size ≤ 2 ∧ ∀ c ∈ y.cps.toList, c < 256)
    (menu_ok1 _) (menu_ok2 _) (menu_ok3 _) (menu_ok4 _) (menu_ok5 _) (hp6 _ _) (by rfl) (by rfl) (by rfl) ?_
  rintro v ⟨y, ty, rfl, hy1, hy2, hy3⟩
  obtain ⟨hx1, hx2, hx3⟩ := hx
  refine PyProof.Rows.iadd_str (fun t' tk' => ?_) (by show x.cps.size + y.cps.size ≤ sizeLine; rw [sizeLine_eq]; omega)
  refine stL e (Fr.push F₃ _) (by rfl) fun h₅ F₅ hs₅ => ?_
  dsimp only
  refine wpAny_execs_nil ⟨rfl, h₅, _, _, rfl, F₅.ns, ⟨hms, _, _, rfl, ?_⟩, ?_⟩
  · refine ⟨?_, ?_, ?_⟩
    · rw [Str.cps_append, Array.size_append]; omega
    · rw [Str.cps_append, Array.size_append]; omega
    · intro c hc
      rw [Str.cps_append, Array.toList_append] at hc
      rcases List.mem_append.mp hc with hc | hc
      · exact hx3 c hc
      · exact hy3 c hc
  · intro b o hb eb
    exact (hs₅.2 b hb).trans (Heap.get?_push_of_some _ ((hs₃.2 b hb).trans (hkp b o eb)))

end Mine

end

section
namespace Mine
open PySem PySem.W PySem.Calls PyProof.Rows
set_option maxRecDepth 100000
local macro_rules | `(tactic| walk_at "gname") => `(tactic| first
  | with_reducible exact g_law_joined _
  | with_reducible exact g_law_single _
  | with_reducible exact g_law_word _
  | with_reducible exact g_law_text _
  | with_reducible exact g_law_put_ahead _
  | with_reducible exact g_reduce _
  | with_reducible exact g_fix_eols _
  | with_reducible exact g_quote_periods _
  | with_reducible exact g_quotedata _
  | with_reducible exact g_CRLF _
  | with_reducible exact g_twin_re_1 _
  | with_reducible exact g_twin_re_2 _
  | with_reducible exact g_twin_re_3 _
  | with_reducible exact g_initial_missing _)
local macro_rules | `(tactic| walk_at "gnone") => `(tactic| first
  | with_reducible exact gn_range _
  | with_reducible exact gn_len _
  | with_reducible exact gn_ord _
  | with_reducible exact gn_chr _
  | with_reducible exact gn_bytes _
  | with_reducible exact gn_sum _
  | with_reducible exact gn_iter _
  | with_reducible exact gn_next _
  | with_reducible exact gn_enumerate _)
local macro_rules | `(tactic| walk_at "bname") => `(tactic| first
  | with_reducible exact b_range
  | with_reducible exact b_len
  | with_reducible exact b_ord
  | with_reducible exact b_chr
  | with_reducible exact b_bytes
  | with_reducible exact b_sum
  | with_reducible exact b_iter
  | with_reducible exact b_next
  | with_reducible exact b_enumerate)
local macro_rules | `(tactic| walk_at "ast") => `(tactic| first
  | with_reducible refine wpAny_execs_cons ?_
  | with_reducible refine wpAny_execs_nil ?_
  | ((with_reducible refine wpAny_Assign_Name ?_ ?p1); (case p1 => rfl))
  | with_reducible refine wpAny_If ?_
  | with_reducible refine wpAny_Return_some ?_
  | with_reducible refine isTrue_and ?_
  | with_reducible refine isTrue_and_nil ?_
  | with_reducible refine wpAny_isTrue_Compare1 ?_
  | with_reducible refine wpAny_Compare1 ?_
  | with_reducible refine wpAny_IfExp ?_
  | ((with_reducible show wpAny _ _ (PySem.isTrue (Expr.Subscript _ _ _) _ _) _ _ _); refine isTrue_plain ?_ (by rfl))
  | with_reducible refine Subscript_ ?_
  | with_reducible refine wpAny_Constant_int ?_
  | with_reducible refine wpAny_Constant_str ?_
  | with_reducible refine wpAny_Constant_bool ?_
  | with_reducible refine wpAny_Constant_none ?_
  | with_reducible refine wpAny_Slice ?_
  | with_reducible refine evalPart_none_step ?_
  | with_reducible refine evalPart_some_step ?_
  | with_reducible refine wpAny_UnaryOp ?_
  | with_reducible refine neg_int ?_
  | with_reducible refine wpAny_BinOp ?_
  | with_reducible refine wpAny_Tuple ?_
  | ((with_reducible show wpAny _ _ (spliced (backTo _ (starEach (_ :: _) _))) _ _ _); refine wpAny_items_cons ?_)
  | ((with_reducible show wpAny _ _ (spliced (backTo _ (starEach [] _))) _ _ _); refine wpAny_items_nil ?_)
  | with_reducible refine wpAny_truthy_bool ?_
  | with_reducible refine PySem.P.eq_str ?_
  | with_reducible refine PySem.P.ne_str ?_
  | with_reducible refine PySem.P.in_str ?_
  | ((with_reducible show wpAny _ _ (eval (Expr.Call (Expr.Name _ _) _ [] _) _) _ _ _); refine Call_ ?_)
  | ((with_reducible show wpAny _ _ (callWith _ (Value.builtin _) [] (backTo _ (starEach (_ :: _) _)) []) _ _ _); refine PyProof.Rows.callWith_builtin1 ?_)
  | ((with_reducible show wpAny _ _ (eval (Expr.Name _ _) _) _ _ _); refine nmL (by first | assumption | exact EnvOk.comp (by assumption) _ rfl _ _) (by assumption) (by rfl) (by first | assumption | rfl) ?_ (by decide))
  | ((with_reducible show wpAny _ _ (eval (Expr.Name _ _) _) _ _ _); refine nmG (by first | assumption | exact EnvOk.comp (by assumption) _ rfl _ _) (Base.keeps (by assumption) (Fr.keep (by assumption))) (by rfl) (by walk_at "gname") ?_ (by decide))
  | ((with_reducible show wpAny _ _ (eval (Expr.Name _ _) _) _ _ _); refine nmB (by first | assumption | exact EnvOk.comp (by assumption) _ rfl _ _) (Base.keeps (by assumption) (Fr.keep (by assumption))) (by rfl) (by walk_at "gnone") (by walk_at "bname") (by decide) ?_ (by decide))
  | ((with_reducible show wpAny _ _ (subscriptTail _ _ (Value.ref _) (Value.int _ _)) _ _ _); refine word_item (by assumption) (by assumption) (by rfl) (by rfl) (by decide) (by decide) ?_ (by rfl)))

set_option maxHeartbeats 1000000 in
theorem call_text {prog : Program} {w : World} {A : Around} {E : Value → Shared → Prop} {s : Shared} {mg mb : Str → Option Value} {S : Addr} {vs : Array Value} {Q : Value → Shared → Prop} {n : Nat}
    (hA : AOk A n) (hn : n ≤ 20) (B : Base w mg mb s.heap) (hS : s.heap.IsList S vs) (hvs : ∀ v ∈ vs, ∃ n t, v = Value.int n t) (hsz : vs.size ≤ 1000)
    (h : ∀ x t s', TextOk 5 10 x → Keeps s s' → Q (.str x t) s') : wpAny (model prog w) A (call (.ref 83) [.ref S]) Q E s := by
  refine call_fd (body := bodyOf (stmtAt 13)) (binds := [((Str.ofString "script"), .ref S)]) hA (by omega) B (fn_text _) rfl (cd_text _) (.of_eq (by rfl)) (by decide) ?_ rfl rfl rfl rfl rfl ?_
  · intro x hx
    rw [List.mem_singleton.mp hx]; rfl
  · intro env h₁ E' e F hA'
    have e : EnvOk env s.heap.objs.size (scopeOf (stmtAt 13)) := e
    refine wpAny_execs_cons ?_
    repeat walk_at "ast"
    refine stL e F (by rfl) fun h₂ F₂ hs₂ => ?_
    dsimp only
    refine wpAny_execs_cons ?_
    refine wpAny_For ?_ (fun _ => rfl)
    repeat walk_at "ast"
    refine PyProof.Rows.callWith_type1 ?_
    refine wpAny_items_cons ?_
    refine wpAny_List ?_
    repeat walk_at "ast"
    refine ⟨by show 5 ≤ sizeLine; rw [sizeLine_eq]; decide, ?_⟩
    repeat walk_at "ast"
    have hLl : ∀ (h : Heap) (xs : List Value), (h.push { cls := .type "list", data := .seq xs.toArray }).get? h.objs.size = some { cls := .type "list", dict := none, data := .seq xs.toArray 0, slots := #[] } := fun h xs => Heap.get?_push_size _ rfl
    refine enum_loop hA'.handled e (by rfl) (by rfl) (hLl _ _) (Fr.push F₂ _) (Nat.ne_of_gt F₂.ns.lt)
      (fun i m => i ≤ 5 ∧ m (Str.ofString "script") = some (.ref S) ∧ ∃ x tx, m (Str.ofString "text") = some (.str x tx) ∧ TextOk i (2 * i) x) ⟨by decide, rfl, _, _, rfl, ?_⟩ ?_ ?_
    · exact ⟨Nat.zero_le _, by decide, by decide⟩
    · rintro i v tk m₁ s₁ E'' hv ⟨hi5, hms, x, tx, hmt, hx⟩ F₄
      have hv5 : i < 5 := by
        have := (Array.getElem?_eq_some_iff.mp hv).1
        simpa using this
      have hvi : ∃ n t, v = Value.int n t := by
        have h5 : i = 0 ∨ i = 1 ∨ i = 2 ∨ i = 3 ∨ i = 4 := by omega
        rcases h5 with rfl | rfl | rfl | rfl | rfl <;> (cases hv; exact ⟨_, _, rfl⟩)
      obtain ⟨n₀, t₀, rfl⟩ := hvi
      refine wpAny_mono (turn_text e (hA'.mono (by omega)) B hS hvs hsz hms hmt hx (by omega) F₄) (fun f s₂ h₂ => ?_) fun _ _ x => x
      obtain ⟨rfl, h', tk', m₂, rfl, hn, ⟨g1, g2⟩, hk⟩ := h₂
      exact ⟨rfl, h', tk', m₂, rfl, hn, ⟨by omega, g1, g2⟩, hk⟩
    · rintro h' tk m' F' ⟨_, hms, x, tx, hmt, hx⟩
      dsimp only
      repeat walk_at "ast"
      exact h x tx _ hx ⟨_, _, rfl, F'.keep⟩
end Mine

end

section
namespace Mine
open PySem PySem.W PySem.Calls PyProof.Rows
set_option maxRecDepth 100000
local macro_rules | `(tactic| walk_at "gname") => `(tactic| first
  | with_reducible exact g_law_joined _
  | with_reducible exact g_law_single _
  | with_reducible exact g_law_word _
  | with_reducible exact g_law_text _
  | with_reducible exact g_law_put_ahead _
  | with_reducible exact g_reduce _
  | with_reducible exact g_fix_eols _
  | with_reducible exact g_quote_periods _
  | with_reducible exact g_quotedata _
  | with_reducible exact g_CRLF _
  | with_reducible exact g_twin_re_1 _
  | with_reducible exact g_twin_re_2 _
  | with_reducible exact g_twin_re_3 _
  | with_reducible exact g_initial_missing _)
local macro_rules | `(tactic| walk_at "gnone") => `(tactic| first
  | with_reducible exact gn_range _
  | with_reducible exact gn_len _
  | with_reducible exact gn_ord _
  | with_reducible exact gn_chr _
  | with_reducible exact gn_bytes _
  | with_reducible exact gn_sum _
  | with_reducible exact gn_iter _
  | with_reducible exact gn_next _
  | with_reducible exact gn_enumerate _)
local macro_rules | `(tactic| walk_at "bname") => `(tactic| first
  | with_reducible exact b_range
  | with_reducible exact b_len
  | with_reducible exact b_ord
  | with_reducible exact b_chr
  | with_reducible exact b_bytes
  | with_reducible exact b_sum
  | with_reducible exact b_iter
  | with_reducible exact b_next
  | with_reducible exact b_enumerate)
local macro_rules | `(tactic| walk_at "ast") => `(tactic| first
  | with_reducible refine wpAny_execs_cons ?_
  | with_reducible refine wpAny_execs_nil ?_
  | ((with_reducible refine wpAny_Assign_Name ?_ ?p1); (case p1 => rfl))
  | with_reducible refine wpAny_If ?_
  | with_reducible refine wpAny_Return_some ?_
  | with_reducible refine isTrue_and ?_
  | with_reducible refine isTrue_and_nil ?_
  | with_reducible refine wpAny_isTrue_Compare1 ?_
  | with_reducible refine wpAny_Compare1 ?_
  | with_reducible refine wpAny_IfExp ?_
  | ((with_reducible show wpAny _ _ (PySem.isTrue (Expr.Subscript _ _ _) _ _) _ _ _); refine isTrue_plain ?_ (by rfl))
  | with_reducible refine Subscript_ ?_
  | with_reducible refine wpAny_Constant_int ?_
  | with_reducible refine wpAny_Constant_str ?_
  | with_reducible refine wpAny_Constant_bool ?_
  | with_reducible refine wpAny_Constant_none ?_
  | with_reducible refine wpAny_Slice ?_
  | with_reducible refine evalPart_none_step ?_
  | with_reducible refine evalPart_some_step ?_
  | with_reducible refine wpAny_UnaryOp ?_
  | with_reducible refine neg_int ?_
  | with_reducible refine wpAny_BinOp ?_
  | with_reducible refine wpAny_Tuple ?_
  | ((with_reducible show wpAny _ _ (spliced (backTo _ (starEach (_ :: _) _))) _ _ _); refine wpAny_items_cons ?_)
  | ((with_reducible show wpAny _ _ (spliced (backTo _ (starEach [] _))) _ _ _); refine wpAny_items_nil ?_)
  | with_reducible refine wpAny_truthy_bool ?_
  | with_reducible refine PySem.P.eq_str ?_
  | with_reducible refine PySem.P.ne_str ?_
  | with_reducible refine PySem.P.in_str ?_
  | ((with_reducible show wpAny _ _ (eval (Expr.Call (Expr.Name _ _) _ [] _) _) _ _ _); refine Call_ ?_)
  | ((with_reducible show wpAny _ _ (callWith _ (Value.builtin _) [] (backTo _ (starEach (_ :: _) _)) []) _ _ _); refine PyProof.Rows.callWith_builtin1 ?_)
  | ((with_reducible show wpAny _ _ (eval (Expr.Name _ _) _) _ _ _); refine nmL (by first | assumption | exact EnvOk.comp (by assumption) _ rfl _ _) (by assumption) (by rfl) (by first | assumption | rfl) ?_ (by decide))
  | ((with_reducible show wpAny _ _ (eval (Expr.Name _ _) _) _ _ _); refine nmG (by first | assumption | exact EnvOk.comp (by assumption) _ rfl _ _) (Base.keeps (by assumption) (Fr.keep (by assumption))) (by rfl) (by walk_at "gname") ?_ (by decide))
  | ((with_reducible show wpAny _ _ (eval (Expr.Name _ _) _) _ _ _); refine nmB (by first | assumption | exact EnvOk.comp (by assumption) _ rfl _ _) (Base.keeps (by assumption) (Fr.keep (by assumption))) (by rfl) (by walk_at "gnone") (by walk_at "bname") (by decide) ?_ (by decide))
  | ((with_reducible show wpAny _ _ (subscriptTail _ _ (Value.ref _) (Value.int _ _)) _ _ _); refine word_item (by assumption) (by assumption) (by rfl) (by rfl) (by decide) (by decide) ?_ (by rfl)))

theorem units_in1 (A : Around) : A.in1.units = A.units + 1 := rfl

theorem eq_word_at {A : Around} {s : Shared} {v v' : Value} {x : Word} (hu : A.units + 5 < cLine) (h : WordAt s.heap v x) (h' : WordAt s.heap v' x) : SeqAt.EqAt A s v v' true := by
  obtain ⟨a, t, n, rfl, ha⟩ := h
  obtain ⟨a', t', n', rfl, ha'⟩ := h'
  by_cases hne : a = a'
  · subst hne; exact SeqAt.EqAt.same _
  · have := SeqAt.RcAt.tuples (A := A) (s := s) (e := fun _ => true) ⟨_, ha, rfl, _, rfl⟩ ⟨_, ha', rfl, _, rfl⟩ (by omega) (fun j h1 h2 => by
      have hj : j = 0 ∨ j = 1 ∨ j = 2 ∨ j = 3 := by
        have : j < 4 := h1
        omega
      rcases hj with rfl | rfl | rfl | rfl
      · have := SeqAt.EqAt.str_str (A := A.in1) (s := s) ⟨x.1.toArray⟩ t ⟨x.1.toArray⟩ t'
        rw [beq_self_eq_true] at this
        exact this
      · have := SeqAt.EqAt.bool_bool (A := A.in1) (s := s) x.2.1 x.2.1
        rw [beq_self_eq_true] at this
        exact this
      · have := SeqAt.EqAt.bool_bool (A := A.in1) (s := s) x.2.2.1 x.2.2.1
        rw [beq_self_eq_true] at this
        exact this
      · have := SeqAt.EqAt.bool_bool (A := A.in1) (s := s) x.2.2.2 x.2.2.2
        rw [beq_self_eq_true] at this
        exact this)
    exact SeqAt.EqAt.of_refs hne this

theorem ne_words {prog : Program} {w : World} {A : Around} {E : Value → Shared → Prop} {s : Shared} {v v' : Value} {x : Word} {Q : Value → Shared → Prop} (hu : A.units + 5 < cLine) (h : WordAt s.heap v x) (h' : WordAt s.heap v' x) (hQ : Q (.bool false) s) :
    wpAny (model prog w) A (compareOp .NotEq v v') Q E s := by
  obtain ⟨a, t, n, rfl, ha⟩ := h
  obtain ⟨a', t', n', rfl, ha'⟩ := h'
  have := SeqAt.RcNeAt.tuples (A := A) (s := s) (e := fun _ => true) ⟨_, ha, rfl, _, rfl⟩ ⟨_, ha', rfl, _, rfl⟩ (by omega) (fun j h1 h2 => by
      have hj : j = 0 ∨ j = 1 ∨ j = 2 ∨ j = 3 := by
        have : j < 4 := h1
        omega
      rcases hj with rfl | rfl | rfl | rfl
      · have := SeqAt.EqAt.str_str (A := A.in1) (s := s) ⟨x.1.toArray⟩ t ⟨x.1.toArray⟩ t'
        rw [beq_self_eq_true] at this
        exact this
      · have := SeqAt.EqAt.bool_bool (A := A.in1) (s := s) x.2.1 x.2.1
        rw [beq_self_eq_true] at this
        exact this
      · have := SeqAt.EqAt.bool_bool (A := A.in1) (s := s) x.2.2.1 x.2.2.1
        rw [beq_self_eq_true] at this
        exact this
      · have := SeqAt.EqAt.bool_bool (A := A.in1) (s := s) x.2.2.2 x.2.2.2
        rw [beq_self_eq_true] at this
        exact this)
  exact this prog w E Q hQ

theorem ne_lists {prog : Program} {w : World} {A : Around} {E : Value → Shared → Prop} {s : Shared} {l b : Addr} {ys zs : Array Value} {ws : List Word} {Q : Value → Shared → Prop} (hu : A.units + 10 < cLine) (hl : s.heap.IsList l ys) (hb : s.heap.IsList b zs)
    (hy : ys.size = ws.length) (hz : zs.size = ws.length) (hyw : ∀ (i : Nat) (y : Value) (x : Word), ys[i]? = some y → ws[i]? = some x → WordAt s.heap y x) (hzw : ∀ (i : Nat) (y : Value) (x : Word), zs[i]? = some y → ws[i]? = some x → WordAt s.heap y x)
    (hQ : Q (.bool false) s) : wpAny (model prog w) A (compareOp .NotEq (.ref l) (.ref b)) Q E s := by
  have := SeqAt.RcNeAt.lists (A := A) (s := s) (e := fun _ => true) hl hb (by omega) (by omega) (fun j h1 h2 => by
    have hj : j < ws.length := by omega
    have g1 : ws[j]? = some ws[j] := List.getElem?_eq_getElem hj
    exact eq_word_at (x := ws[j]) (by rw [units_in1]; omega) (hyw j _ _ (Array.getElem?_eq_getElem h1) g1) (hzw j _ _ (Array.getElem?_eq_getElem h2) g1))
  refine this prog w E Q ?_
  have e : (!(List.range ys.size).all fun _ => true) = false := by
    rw [Bool.not_eq_false', List.all_eq_true]; intros; rfl
  rw [e]; exact hQ
end Mine

end

section
namespace Mine
open PySem PySem.W PySem.Calls PyProof.Rows
set_option maxRecDepth 100000
local macro_rules | `(tactic| walk_at "gname") => `(tactic| first
  | with_reducible exact g_law_joined _
  | with_reducible exact g_law_single _
  | with_reducible exact g_law_word _
  | with_reducible exact g_law_text _
  | with_reducible exact g_law_put_ahead _
  | with_reducible exact g_reduce _
  | with_reducible exact g_fix_eols _
  | with_reducible exact g_quote_periods _
  | with_reducible exact g_quotedata _
  | with_reducible exact g_CRLF _
  | with_reducible exact g_twin_re_1 _
  | with_reducible exact g_twin_re_2 _
  | with_reducible exact g_twin_re_3 _
  | with_reducible exact g_initial_missing _)
local macro_rules | `(tactic| walk_at "gnone") => `(tactic| first
  | with_reducible exact gn_range _
  | with_reducible exact gn_len _
  | with_reducible exact gn_ord _
  | with_reducible exact gn_chr _
  | with_reducible exact gn_bytes _
  | with_reducible exact gn_sum _
  | with_reducible exact gn_iter _
  | with_reducible exact gn_next _
  | with_reducible exact gn_enumerate _)
local macro_rules | `(tactic| walk_at "bname") => `(tactic| first
  | with_reducible exact b_range
  | with_reducible exact b_len
  | with_reducible exact b_ord
  | with_reducible exact b_chr
  | with_reducible exact b_bytes
  | with_reducible exact b_sum
  | with_reducible exact b_iter
  | with_reducible exact b_next
  | with_reducible exact b_enumerate)
local macro_rules | `(tactic| walk_at "ast") => `(tactic| first
  | with_reducible refine wpAny_execs_cons ?_
  | with_reducible refine wpAny_execs_nil ?_
  | ((with_reducible refine wpAny_Assign_Name ?_ ?p1); (case p1 => rfl))
  | with_reducible refine wpAny_If ?_
  | with_reducible refine wpAny_Return_some ?_
  | with_reducible refine isTrue_and ?_
  | with_reducible refine isTrue_and_nil ?_
  | with_reducible refine wpAny_isTrue_Compare1 ?_
  | with_reducible refine wpAny_Compare1 ?_
  | with_reducible refine wpAny_IfExp ?_
  | ((with_reducible show wpAny _ _ (PySem.isTrue (Expr.Subscript _ _ _) _ _) _ _ _); refine isTrue_plain ?_ (by rfl))
  | with_reducible refine Subscript_ ?_
  | with_reducible refine wpAny_Constant_int ?_
  | with_reducible refine wpAny_Constant_str ?_
  | with_reducible refine wpAny_Constant_bool ?_
  | with_reducible refine wpAny_Constant_none ?_
  | with_reducible refine wpAny_Slice ?_
  | with_reducible refine evalPart_none_step ?_
  | with_reducible refine evalPart_some_step ?_
  | with_reducible refine wpAny_UnaryOp ?_
  | with_reducible refine neg_int ?_
  | with_reducible refine wpAny_BinOp ?_
  | with_reducible refine wpAny_Tuple ?_
  | ((with_reducible show wpAny _ _ (spliced (backTo _ (starEach (_ :: _) _))) _ _ _); refine wpAny_items_cons ?_)
  | ((with_reducible show wpAny _ _ (spliced (backTo _ (starEach [] _))) _ _ _); refine wpAny_items_nil ?_)
  | with_reducible refine wpAny_truthy_bool ?_
  | with_reducible refine PySem.P.eq_str ?_
  | with_reducible refine PySem.P.ne_str ?_
  | with_reducible refine PySem.P.in_str ?_
  | ((with_reducible show wpAny _ _ (eval (Expr.Call (Expr.Name _ _) _ [] _) _) _ _ _); refine Call_ ?_)
  | ((with_reducible show wpAny _ _ (callWith _ (Value.builtin _) [] (backTo _ (starEach (_ :: _) _)) []) _ _ _); refine PyProof.Rows.callWith_builtin1 ?_)
  | ((with_reducible show wpAny _ _ (eval (Expr.Name _ _) _) _ _ _); refine nmL (by first | assumption | exact EnvOk.comp (by assumption) _ rfl _ _) (by assumption) (by rfl) (by first | assumption | rfl) ?_ (by decide))
  | ((with_reducible show wpAny _ _ (eval (Expr.Name _ _) _) _ _ _); refine nmG (by first | assumption | exact EnvOk.comp (by assumption) _ rfl _ _) (Base.keeps (by assumption) (Fr.keep (by assumption))) (by rfl) (by walk_at "gname") ?_ (by decide))
  | ((with_reducible show wpAny _ _ (eval (Expr.Name _ _) _) _ _ _); refine nmB (by first | assumption | exact EnvOk.comp (by assumption) _ rfl _ _) (Base.keeps (by assumption) (Fr.keep (by assumption))) (by rfl) (by walk_at "gnone") (by walk_at "bname") (by decide) ?_ (by decide))
  | ((with_reducible show wpAny _ _ (subscriptTail _ _ (Value.ref _) (Value.int _ _)) _ _ _); refine word_item (by assumption) (by assumption) (by rfl) (by rfl) (by decide) (by decide) ?_ (by rfl)))

theorem nne (L : Nat) {i j : Nat} (h : i ≠ j) : L + i ≠ L + j := by omega
theorem nle (L : Nat) {i j : Nat} (h : i ≤ j) : L + i ≤ L + j := by omega
theorem nz (L : Nat) {k : Nat} (h : 0 < k) : L + k ≠ L := by omega
theorem nlt (a L k n : Nat) (h1 : a < n) (h2 : n ≤ L) : a ≠ L + k := by omega

section
variable {prog : Program} {w : World} {A : Around} {E : Value → Shared → Prop} {s : Shared}

theorem small_ok (a b : Int) (ha : 0 ≤ a) (ha' : a ≤ 10000) (hb : 0 ≤ b) (hb' : b ≤ 10000) : Builtin.Range.small a b 1 = true := by
  have fit : ∀ i : Int, -10001 ≤ i → i ≤ 20001 → Builtin.Range.rangeFitsLong i = true := by
    intro i h1 h2
    unfold Builtin.Range.rangeFitsLong
    rw [Bool.and_eq_true, decide_eq_true_eq, decide_eq_true_eq]
    omega
  unfold Builtin.Range.small
  rw [rangeSize_one, if_pos (show (1 : Int) > 0 by decide), fit a (by omega) (by omega), fit b (by omega) (by omega), fit 1 (by decide) (by decide), fit (b + (1 - 1)) (by omega) (by omega)]
  have h5 : Builtin.Range.rangeFitsLong (if a < b then b - a else 0) = true := by split <;> exact fit _ (by omega) (by omega)
  rw [h5]
  simp

/-- what is left to iterate, behind range(..) -/
theorem iter_range1 {n : Nat} {t : Tok} {K : Value → Shared → Prop} (hn : n ≤ 10000)
    (h : ∀ h' tk, (∀ b o, s.heap.get? b = some o → h'.get? b = some o) → IsRangeIter h' (s.heap.objs.size + 1) ((0 : Int) + (0 : Nat) * 1) ((n : Int) - (0 : Nat)) 1 → h'.objs.size = s.heap.objs.size + 2 → K (.ref (s.heap.objs.size + 1)) { s with heap := h', toks := tk }) :
    wpAny (model prog w) A (call (.type "range") [.int (n : Int) t]) (fun xv s₁ => wpAny (model prog w) A (pyIter xv) K E s₁) E s := by
  refine call_range_1 ?_
  refine wpAny_pyIter_range (IsRange.new ..) (small_ok 0 n (by decide) (by decide) (by omega) (by omega)) ?_
  have hz : (s.heap.push { cls := .type "range", data := .fields #[.int 0 s.toks, .int (n : Int) t, .int 1 (s.toks + 1)] }).objs.size = s.heap.objs.size + 1 := Heap.size_push ..
  have hr : Builtin.Range.rangeSize 0 (n : Int) 1 = ((n : Int) - (0 : Nat)) := by rw [rangeSize_one]; split <;> omega
  dsimp only
  rw [hz, hr]
  refine h _ _ (fun b o e => Heap.get?_push_of_some _ (Heap.get?_push_of_some _ e)) ?_ (by rw [Heap.size_push, hz])
  have := Heap.get?_push_size (s.heap.push { cls := .type "range", data := .fields #[.int 0 s.toks, .int (n : Int) t, .int 1 (s.toks + 1)] }) (o := { cls := .type "range_iterator", data := .fields #[rawInt 0, rawInt ((n : Int) - (0 : Nat)), rawInt 1] }) rfl
  rw [hz] at this
  exact this

theorem iter_range2 {a n : Nat} {b : Int} {t u : Tok} {K : Value → Shared → Prop} (hb : b = ((a + n : Nat) : Int)) (hn : a + n ≤ 10000)
    (h : ∀ h' tk, (∀ b o, s.heap.get? b = some o → h'.get? b = some o) → IsRangeIter h' (s.heap.objs.size + 1) ((a : Int) + (0 : Nat) * 1) ((n : Int) - (0 : Nat)) 1 → h'.objs.size = s.heap.objs.size + 2 → K (.ref (s.heap.objs.size + 1)) { s with heap := h', toks := tk }) :
    wpAny (model prog w) A (call (.type "range") [.int (a : Int) t, .int b u]) (fun xv s₁ => wpAny (model prog w) A (pyIter xv) K E s₁) E s := by
  subst hb
  refine call_range_2 ?_
  refine wpAny_pyIter_range (IsRange.new ..) (small_ok a _ (by omega) (by omega) (by omega) (by omega)) ?_
  have hz : (s.heap.push { cls := .type "range", data := .fields #[.int (a : Int) t, .int ((a + n : Nat) : Int) u, .int 1 s.toks] }).objs.size = s.heap.objs.size + 1 := Heap.size_push ..
  have hr : Builtin.Range.rangeSize (a : Int) ((a + n : Nat) : Int) 1 = ((n : Int) - (0 : Nat)) := by rw [rangeSize_one]; split <;> omega
  have ha : (a : Int) + (0 : Nat) * 1 = a := by omega
  rw [ha] at h
  dsimp only
  rw [hz, hr]
  refine h _ _ (fun b o e => Heap.get?_push_of_some _ (Heap.get?_push_of_some _ e)) ?_ (by rw [Heap.size_push, hz])
  have := Heap.get?_push_size (s.heap.push { cls := .type "range", data := .fields #[.int (a : Int) t, .int ((a + n : Nat) : Int) u, .int 1 s.toks] }) (o := { cls := .type "range_iterator", data := .fields #[rawInt (a : Int), rawInt ((n : Int) - (0 : Nat)), rawInt 1] }) rfl
  rw [hz] at this
  exact this
end

/-- data: a tuple or a list -/
def Dat (o : Obj) : Prop := Tup o ∨ (o.cls = .type "list" ∧ ∃ items n, o.data = .seq items n)
def DK (h h' : Heap) : Prop := ∀ b o, Dat o → h.get? b = some o → h'.get? b = some o
theorem Dat.seq {o : Obj} (h : Dat o) : ∃ items n, o.data = .seq items n := h.elim (fun x => x.2) fun x => x.2
theorem DK.trans {h h' h'' : Heap} (a : DK h h') (b : DK h' h'') : DK h h'' := fun x o d e => b x o d (a x o d e)
theorem DK.of_keep {h h' : Heap} (hk : ∀ b o, h.get? b = some o → h'.get? b = some o) : DK h h' := fun b o _ e => hk b o e
theorem DK.ns {h h' : Heap} {L : Addr} {m : Str → Option Value} (hn : h.Ns L m) (hs : Heap.SameBut L h h') : DK h h' := fun b o d e => (hs.2 b (by
  rintro rfl
  obtain ⟨o', es, ep, ho, hd, _⟩ := hn
  rw [ho] at e; cases e
  obtain ⟨items, n, hd'⟩ := d.seq
  rw [hd] at hd'; cases hd')).trans e
theorem DK.cell {h h' : Heap} {c : Addr} {v : Option Value} (hc : h.IsCell c v) (hs : Heap.SameBut c h h') : DK h h' := fun b o d e => (hs.2 b (by
  rintro rfl
  obtain ⟨o', ho, hd⟩ := hc
  rw [ho] at e; cases e
  obtain ⟨items, n, hd'⟩ := d.seq
  rw [hd] at hd'; cases hd')).trans e
theorem DK.iter {h h' : Heap} {I : Addr} {x l st : Int} (hi : IsRangeIter h I x l st) (hk : ∀ b o, b ≠ I → h.get? b = some o → h'.get? b = some o) : DK h h' := fun b o d e => hk b o (by
  rintro rfl
  rw [hi] at e; cases e
  obtain ⟨items, n, hd'⟩ := d.seq
  cases hd') e

theorem WordAt.dk {h h' : Heap} {v : Value} {x : Word} (k : WordAt h v x) (hk : DK h h') : WordAt h' v x := k.tup fun b o ht e => hk b o (.inl ht) e
theorem plainList_dk {h h' : Heap} {a : Addr} {items : Array Value} (x : h.PlainList a items) (hk : DK h h') : h'.PlainList a items := by
  obtain ⟨n, e⟩ := x
  exact ⟨n, hk _ _ (.inr ⟨rfl, _, _, rfl⟩) e⟩

/-- a row: the words of the stretches from i on -/
def RowAt (h : Heap) (wr : Wr) (x : List Nat) (v : Value) (i : Nat) : Prop :=
  ∃ r es, v = .ref r ∧ h.PlainList r es ∧ es.size = x.length + 1 ∧ ∀ (j : Nat) (y : Value), es[j]? = some y → if i < j then WordAt h y (wordOf wr ((x.drop i).take (j - i))) else y = .none
theorem RowAt.dk {h h' : Heap} {wr : Wr} {x : List Nat} {v : Value} {i : Nat} (k : RowAt h wr x v i) (hk : DK h h') : RowAt h' wr x v i := by
  obtain ⟨r, es, rfl, hl, hs, he⟩ := k
  refine ⟨r, es, rfl, plainList_dk hl hk, hs, fun j y hy => ?_⟩
  have := he j y hy
  split
  · rename_i hlt
    rw [if_pos hlt] at this
    exact this.dk hk
  · rename_i hlt
    rw [if_neg hlt] at this
    exact this
/-- the words -/
def WordsAt (h : Heap) (wr : Wr) (x : List Nat) (W : Addr) (n : Nat) : Prop := ∃ ys, h.PlainList W ys ∧ ys.size = n ∧ ∀ (i : Nat) (y : Value), ys[i]? = some y → RowAt h wr x y i
theorem WordsAt.dk {h h' : Heap} {wr : Wr} {x : List Nat} {W : Addr} {n : Nat} (k : WordsAt h wr x W n) (hk : DK h h') : WordsAt h' wr x W n := by
  obtain ⟨ys, hl, hs, hr⟩ := k
  exact ⟨ys, plainList_dk hl hk, hs, fun i y hy => (hr i y hy).dk hk⟩

/-- the law's frame and its cells -/
structure LSt (h₀ : Heap) (L : Addr) (h : Heap) (m : Str → Option Value) (vt vw vs vst : Option Value) : Prop where
  F : Fr h₀ L h m
  t : h.IsCell (L + 1) vt
  w : h.IsCell (L + 2) vw
  ws : h.IsCell (L + 3) vs
  st : h.IsCell (L + 4) vst
theorem LSt.keeps {h₀ h h' : Heap} {L : Addr} {m : Str → Option Value} {vt vw vs vst : Option Value} (S : LSt h₀ L h m vt vw vs vst) (hk : ∀ b o, h.get? b = some o → h'.get? b = some o) : LSt h₀ L h' m vt vw vs vst :=
  ⟨S.F.keeps hk, S.t.keeps hk, S.w.keeps hk, S.ws.keeps hk, S.st.keeps hk⟩
theorem LSt.keepI {h₀ h h' : Heap} {L I : Addr} {m : Str → Option Value} {vt vw vs vst : Option Value} (S : LSt h₀ L h m vt vw vs vst) (hI : L + 4 < I) (hk : ∀ b o, b ≠ I → h.get? b = some o → h'.get? b = some o) : LSt h₀ L h' m vt vw vs vst := by
  have hc : ∀ {c : Addr} {v : Option Value}, c ≤ L + 4 → h.IsCell c v → h'.IsCell c v := by
    rintro c v hle ⟨o, ho, hd⟩
    exact ⟨o, hk c o (Nat.ne_of_lt (Nat.lt_of_le_of_lt hle hI)) ho, hd⟩
  have hL : L < I := Nat.lt_of_le_of_lt (Nat.le_add_right _ _) hI
  refine ⟨⟨S.F.ns.at' fun o e => hk _ o (Nat.ne_of_lt hL) e, fun b o e => hk b o (Nat.ne_of_lt (Nat.lt_of_lt_of_le (Heap.lt_size e) (Nat.le_of_lt (Nat.lt_of_le_of_lt S.F.above hL)))) (S.F.keep b o e), S.F.above⟩, hc (nle L (by decide)) S.t, hc (nle L (by decide)) S.w, hc (nle L (by decide)) S.ws, hc (Nat.le_refl _) S.st⟩
theorem LSt.lt {h₀ h : Heap} {L : Addr} {m : Str → Option Value} {vt vw vs vst : Option Value} (S : LSt h₀ L h m vt vw vs vst) : L + 4 < h.objs.size := S.st.lt

/-- the law's environment -/
def lawEnv (L a : Addr) (q : Str) (cd : Value) : Env :=
  { scope := scopeOf (stmtAt 18), locals := L, globals := mainGlobals, cells := [(Str.ofString "start", L + 4), (Str.ofString "words", L + 3), (Str.ofString "writer", L + 2), (Str.ofString "text", L + 1)], qual := q, func := some a, code := cd, frame := some L, builtins := builtinsNs }
theorem lawEnv_ok (L a : Addr) (q : Str) (cd : Value) : EnvOk (lawEnv L a q cd) L (scopeOf (stmtAt 18)) := ⟨rfl, rfl, rfl, rfl, fun _ => rfl⟩

section
variable {prog : Program} {w : World} {A : Around} {E : Value → Shared → Prop} {s : Shared} {env : Env} {L : Addr} {sc : Scope} {h₀ : Heap} {m : Str → Option Value} {x : Str} {pos : Pos} {v : Value} {c : Addr} {vt vw vs vst : Option Value}

theorem nmC {Q : Value → Shared → Prop} (e : EnvOk env L sc) (hx : sc.names.lookup x = some .cell) (hc : env.cells.lookup x = some c) (hv : s.heap.IsCell c (some v)) (h : Q v s) (hd : (x == ("__debug__" : Str)) = false) :
    wpAny (model prog w) A (eval (.Name x pos) env) Q E s := wpAny_Name (wpAny_loadName_cell e.kind ((e.kinds x).trans hx) hc hv h) hd

theorem lst_local {Q : Unit → Shared → Prop} (e : EnvOk env L sc) (S : LSt h₀ L s.heap m vt vw vs vst) (hx : sc.names.lookup x = some .local)
    (h : ∀ h', LSt h₀ L h' (fun y => if y = x then some v else m y) vt vw vs vst → DK s.heap h' → Q () { s with heap := h', toks := s.toks + 1 }) : wpAny (model prog w) A (storeName env x v) Q E s := by
  refine stL e S.F hx fun h' F' hs => h h' ?_ (.ns S.F.ns hs)
  have hne : ∀ k : Nat, 0 < k → L + k ≠ L := fun k hk => nz L hk
  exact ⟨F', S.t.sameBut hs (hne 1 (by decide)), S.w.sameBut hs (hne 2 (by decide)), S.ws.sameBut hs (hne 3 (by decide)), S.st.sameBut hs (hne 4 (by decide))⟩

theorem frame_cell {h h' : Heap} (F : Fr h₀ L h m) (k : Nat) (hk : 0 < k) (hs : Heap.SameBut (L + k) h h') : Fr h₀ L h' m :=
  ⟨F.ns.sameBut hs (Ne.symm (nz L hk)), fun b o e => (hs.2 b (nlt b L k _ (Heap.lt_size e) F.above)).trans (F.keep b o e), F.above⟩

theorem lst_start {Q : Unit → Shared → Prop} (e : EnvOk env L sc) (S : LSt h₀ L s.heap m vt vw vs vst) (hx : sc.names.lookup x = some .cell) (hc : env.cells.lookup x = some (L + 4))
    (h : ∀ h', LSt h₀ L h' m vt vw vs (some v) → DK s.heap h' → Q () { s with heap := h' }) : wpAny (model prog w) A (storeName env x v) Q E s := by
  refine wpAny_storeName_cell e.kind ((e.kinds x).trans hx) hc S.st fun h' hv hs => h h' ?_ (.cell S.st hs)
  exact ⟨frame_cell S.F 4 (by decide) hs, S.t.sameBut hs (nne L (by decide)), S.w.sameBut hs (nne L (by decide)), S.ws.sameBut hs (nne L (by decide)), hv⟩
theorem lst_words {Q : Unit → Shared → Prop} (e : EnvOk env L sc) (S : LSt h₀ L s.heap m vt vw vs vst) (hx : sc.names.lookup x = some .cell) (hc : env.cells.lookup x = some (L + 3))
    (h : ∀ h', LSt h₀ L h' m vt vw (some v) vst → DK s.heap h' → Q () { s with heap := h' }) : wpAny (model prog w) A (storeName env x v) Q E s := by
  refine wpAny_storeName_cell e.kind ((e.kinds x).trans hx) hc S.ws fun h' hv hs => h h' ?_ (.cell S.ws hs)
  exact ⟨frame_cell S.F 3 (by decide) hs, S.t.sameBut hs (nne L (by decide)), S.w.sameBut hs (nne L (by decide)), hv, S.st.sameBut hs (nne L (by decide))⟩
theorem lst_writer {Q : Unit → Shared → Prop} (e : EnvOk env L sc) (S : LSt h₀ L s.heap m vt vw vs vst) (hx : sc.names.lookup x = some .cell) (hc : env.cells.lookup x = some (L + 2))
    (h : ∀ h', LSt h₀ L h' m vt (some v) vs vst → DK s.heap h' → Q () { s with heap := h' }) : wpAny (model prog w) A (storeName env x v) Q E s := by
  refine wpAny_storeName_cell e.kind ((e.kinds x).trans hx) hc S.w fun h' hv hs => h h' ?_ (.cell S.w hs)
  exact ⟨frame_cell S.F 2 (by decide) hs, S.t.sameBut hs (nne L (by decide)), hv, S.ws.sameBut hs (nne L (by decide)), S.st.sameBut hs (nne L (by decide))⟩
theorem lst_text {Q : Unit → Shared → Prop} (e : EnvOk env L sc) (S : LSt h₀ L s.heap m vt vw vs vst) (hx : sc.names.lookup x = some .cell) (hc : env.cells.lookup x = some (L + 1))
    (h : ∀ h', LSt h₀ L h' m (some v) vw vs vst → DK s.heap h' → Q () { s with heap := h' }) : wpAny (model prog w) A (storeName env x v) Q E s := by
  refine wpAny_storeName_cell e.kind ((e.kinds x).trans hx) hc S.t fun h' hv hs => h h' ?_ (.cell S.t hs)
  exact ⟨frame_cell S.F 1 (by decide) hs, hv, S.w.sameBut hs (nne L (by decide)), S.ws.sameBut hs (nne L (by decide)), S.st.sameBut hs (nne L (by decide))⟩
end
end Mine

end

section
namespace Mine
open PySem PySem.W PySem.Calls PyProof.Rows
set_option maxRecDepth 100000
local macro_rules | `(tactic| walk_at "gname") => `(tactic| first
  | with_reducible exact g_law_joined _
  | with_reducible exact g_law_single _
  | with_reducible exact g_law_word _
  | with_reducible exact g_law_text _
  | with_reducible exact g_law_put_ahead _
  | with_reducible exact g_reduce _
  | with_reducible exact g_fix_eols _
  | with_reducible exact g_quote_periods _
  | with_reducible exact g_quotedata _
  | with_reducible exact g_CRLF _
  | with_reducible exact g_twin_re_1 _
  | with_reducible exact g_twin_re_2 _
  | with_reducible exact g_twin_re_3 _
  | with_reducible exact g_initial_missing _)
local macro_rules | `(tactic| walk_at "gnone") => `(tactic| first
  | with_reducible exact gn_range _
  | with_reducible exact gn_len _
  | with_reducible exact gn_ord _
  | with_reducible exact gn_chr _
  | with_reducible exact gn_bytes _
  | with_reducible exact gn_sum _
  | with_reducible exact gn_iter _
  | with_reducible exact gn_next _
  | with_reducible exact gn_enumerate _)
local macro_rules | `(tactic| walk_at "bname") => `(tactic| first
  | with_reducible exact b_range
  | with_reducible exact b_len
  | with_reducible exact b_ord
  | with_reducible exact b_chr
  | with_reducible exact b_bytes
  | with_reducible exact b_sum
  | with_reducible exact b_iter
  | with_reducible exact b_next
  | with_reducible exact b_enumerate)
local macro_rules | `(tactic| walk_at "ast") => `(tactic| first
  | with_reducible refine wpAny_execs_cons ?_
  | with_reducible refine wpAny_execs_nil ?_
  | ((with_reducible refine wpAny_Assign_Name ?_ ?p1); (case p1 => rfl))
  | with_reducible refine wpAny_If ?_
  | with_reducible refine wpAny_Return_some ?_
  | with_reducible refine isTrue_and ?_
  | with_reducible refine isTrue_and_nil ?_
  | with_reducible refine wpAny_isTrue_Compare1 ?_
  | with_reducible refine wpAny_Compare1 ?_
  | with_reducible refine wpAny_IfExp ?_
  | ((with_reducible show wpAny _ _ (PySem.isTrue (Expr.Subscript _ _ _) _ _) _ _ _); refine isTrue_plain ?_ (by rfl))
  | with_reducible refine Subscript_ ?_
  | with_reducible refine wpAny_Constant_int ?_
  | with_reducible refine wpAny_Constant_str ?_
  | with_reducible refine wpAny_Constant_bool ?_
  | with_reducible refine wpAny_Constant_none ?_
  | with_reducible refine wpAny_Slice ?_
  | with_reducible refine evalPart_none_step ?_
  | with_reducible refine evalPart_some_step ?_
  | with_reducible refine wpAny_UnaryOp ?_
  | with_reducible refine neg_int ?_
  | with_reducible refine wpAny_BinOp ?_
  | with_reducible refine wpAny_Tuple ?_
  | ((with_reducible show wpAny _ _ (spliced (backTo _ (starEach (_ :: _) _))) _ _ _); refine wpAny_items_cons ?_)
  | ((with_reducible show wpAny _ _ (spliced (backTo _ (starEach [] _))) _ _ _); refine wpAny_items_nil ?_)
  | with_reducible refine wpAny_truthy_bool ?_
  | with_reducible refine PySem.P.eq_str ?_
  | with_reducible refine PySem.P.ne_str ?_
  | with_reducible refine PySem.P.in_str ?_
  | ((with_reducible show wpAny _ _ (eval (Expr.Call (Expr.Name _ _) _ [] _) _) _ _ _); refine Call_ ?_)
  | ((with_reducible show wpAny _ _ (callWith _ (Value.builtin _) [] (backTo _ (starEach (_ :: _) _)) []) _ _ _); refine PyProof.Rows.callWith_builtin1 ?_)
  | ((with_reducible show wpAny _ _ (eval (Expr.Name _ _) _) _ _ _); refine nmL (by first | assumption | exact EnvOk.comp (by assumption) _ rfl _ _) (by assumption) (by rfl) (by first | assumption | rfl) ?_ (by decide))
  | ((with_reducible show wpAny _ _ (eval (Expr.Name _ _) _) _ _ _); refine nmG (by first | assumption | exact EnvOk.comp (by assumption) _ rfl _ _) (Base.keeps (by assumption) (Fr.keep (by assumption))) (by rfl) (by walk_at "gname") ?_ (by decide))
  | ((with_reducible show wpAny _ _ (eval (Expr.Name _ _) _) _ _ _); refine nmB (by first | assumption | exact EnvOk.comp (by assumption) _ rfl _ _) (Base.keeps (by assumption) (Fr.keep (by assumption))) (by rfl) (by walk_at "gnone") (by walk_at "bname") (by decide) ?_ (by decide))
  | ((with_reducible show wpAny _ _ (eval (Expr.Name _ _) _) _ _ _); refine nmC (by first | assumption | exact EnvOk.comp (by assumption) _ rfl _ _) (by rfl) (by rfl) (by assumption) ?_ (by decide))
  | ((with_reducible show wpAny _ _ (subscriptTail _ _ (Value.ref _) (Value.int _ _)) _ _ _); refine word_item (by assumption) (by assumption) (by rfl) (by rfl) (by decide) (by decide) ?_ (by rfl)))


theorem iter_range1' {prog : Program} {w : World} {A : Around} {E : Value → Shared → Prop} {s : Shared} {n : Nat} {b : Int} {t : Tok} {K : Value → Shared → Prop} (hb : b = (n : Int)) (hn : n ≤ 10000)
    (h : ∀ h' tk, (∀ b o, s.heap.get? b = some o → h'.get? b = some o) → IsRangeIter h' (s.heap.objs.size + 1) ((0 : Int) + (0 : Nat) * 1) ((n : Int) - (0 : Nat)) 1 → h'.objs.size = s.heap.objs.size + 2 → K (.ref (s.heap.objs.size + 1)) { s with heap := h', toks := tk }) :
    wpAny (model prog w) A (call (.type "range") [.int b t]) (fun xv s₁ => wpAny (model prog w) A (pyIter xv) K E s₁) E s := by
  subst hb; exact iter_range1 hn h

theorem rangeIter_live {i : Int} {h : Heap} {I : Addr} {l st : Int} (hi : IsRangeIter h I i l st) : ∃ o, h.get? I = some o ∧ ¬ Tup o := ⟨_, hi, fun ht => by have := ht.1; simp at this⟩

def wbody : List Stmt := match bodyOf (stmtAt 18) with | [_, _, .For _ _ b _ _, _] => b | _ => []
def wst (k : Nat) : Stmt := match wbody[k]? with | some st => st | none => .Pass ⟨0, 0, 0, 0⟩

set_option maxHeartbeats 2000000 in
/-- one row -/
theorem row_comp {prog : Program} {w : World} {A : Around} {E : Value → Shared → Prop} {s : Shared} {mg mb : Str → Option Value} {L a : Addr} {q : Str} {cd : Value} {h₀ : Heap} {m : Str → Option Value} {vs : Option Value} {wr : Wr} {x : Str} {tx tw ti ts : Tok} {i : Nat} {Q : Value → Shared → Prop}
    (hA : AOk A 20) (B : Base w mg mb h₀) (S : LSt h₀ L s.heap m (some (.str x tx)) (some (.str (wstr wr) tw)) vs (some (.int (i : Int) ti))) (hx : TextOk 5 10 x) (hsz : m (Str.ofString "size") = some (.int (x.cps.size : Int) ts)) (hi : i < x.cps.size)
    (hQ : ∀ D h' tk, s.heap.get? D = none → RowAt h' wr x.cps.toList (.ref D) i → (∀ b o, s.heap.get? b = some o → h'.get? b = some o) → Q (.ref D) { s with heap := h', toks := tk }) :
    wpAny (model prog w) A (eval (match wst 1 with | .For _ _ [.Expr (.Call _ [e] _ _) _] _ _ => e | _ => .Constant .none 0 ⟨0, 0, 0, 0⟩) (lawEnv L a q cd)) Q E s := by
  have e := lawEnv_ok L a q cd
  obtain ⟨hx1, hx2, hx3⟩ := hx
  obtain ⟨F, c1, c2, c3, c4⟩ := id S
  refine comp_rule (cl := [(Str.ofString "writer", L + 2), (Str.ofString "text", L + 1), (Str.ofString "start", L + 4)]) (F := fun j y h => if i < j then WordAt h y (wordOf wr ((x.cps.toList.drop i).take (j - i))) else y = .none) ?_ rfl (by decide) rfl (by decide) rfl ?_ (fun _ => rfl)
  · intro j y h h' hF hk
    split
    · rename_i hlt
      rw [if_pos hlt] at hF
      exact hF.tup hk
    · rename_i hlt
      rw [if_neg hlt] at hF
      exact hF
  repeat walk_at "ast"
  refine PyProof.Rows.callWith_type1 ?_
  repeat walk_at "ast"
  refine PyProof.Rows.add_int ?_
  repeat walk_at "ast"
  refine iter_range1' (n := x.cps.size + 1) (by omega) (by omega) fun h₁ tk₁ hk₁ hit hz₁ => ?_
  have hk₁ : ∀ b o, s.heap.get? b = some o → h₁.get? b = some o := hk₁
  refine ⟨_, _, _, _, _, rfl, PyProof.Rows.LCg.range_walks hA.handled 0 (x.cps.size + 1), by rw [sizeLine_eq]; omega, fun j h hj => rangeIter_live hj, hit, ?_, ?_, ?_⟩
  · intro b hb
    rw [List.mem_singleton.mp hb]
    show s.heap.objs.size + 1 < h₁.objs.size
    rw [hz₁]; exact Nat.lt_succ_self _
  · intro C j v s₃ m₃ E' hC hj hv hn hm hk₃
    obtain ⟨tv, rfl⟩ := hv
    have hlt : ∀ b o, s.heap.get? b = some o → b ≠ s.heap.objs.size + 1 := fun b o q => Nat.ne_of_lt (Nat.lt_succ_of_lt (Heap.lt_size q))
    have hk : ∀ b o, s.heap.get? b = some o → s₃.heap.get? b = some o := fun b o q => hk₃ b o (hlt b o q) (hk₁ b o q)
    have hCs : s.heap.objs.size ≤ C := by
      have : h₁.objs.size < C := hC
      rw [hz₁] at this
      exact Nat.le_of_lt (Nat.lt_of_succ_lt (Nat.lt_of_succ_lt this))
    have Fc : Fr s.heap C s₃.heap m₃ := ⟨hn, hk, hCs⟩
    have B₁ : Base w mg mb s.heap := B.keeps F.keep
    have d1 := c1.keeps hk
    have d2 := c2.keeps hk
    have d4 := c4.keeps hk
    repeat walk_at "ast"
    refine PyProof.Rows.lt_int ?_
    repeat walk_at "ast"
    by_cases hij : i < j
    · refine ite_T (by simpa using hij) ?_
      repeat walk_at "ast"
      refine cw_fn (fn_word _) ?_
      repeat walk_at "ast"
      refine slice_tail (.int _ _) (.int _ _) (by show x.cps.size ≤ sizeLine; rw [sizeLine_eq]; omega) (fun h₄ t₄ k₄ hk₄ => ?_) (by rfl) (fun _ => rfl)
      repeat walk_at "ast"
      have hk4 : ∀ b o, s.heap.get? b = some o → h₄.get? b = some o := fun b o q => hk₄ b o (hk b o q)
      refine ⟨(B₁.keeps hk4).k, ?_⟩
      have hsl : (Txt.slice x (some (i : Int)) (some (0 + (j : Int)))).cps.toList = (x.cps.toList.drop i).take (j - i) := by
        rw [Int.zero_add]
        exact slice_mid x i j (by show j ≤ x.cps.size; omega)
      have hll : (Txt.slice x (some (i : Int)) (some (0 + (j : Int)))).cps.size = j - i := by
        have e1 : (Txt.slice x (some (i : Int)) (some (0 + (j : Int)))).cps.size = (Txt.slice x (some (i : Int)) (some (0 + (j : Int)))).cps.toList.length := rfl
        rw [e1, hsl, List.length_take, List.length_drop]
        have : x.cps.toList.length = x.cps.size := rfl
        omega
      refine call_word (n := 20) (by first | exact hA | exact hA.mono (by omega)) (by omega) (B₁.keeps hk4) (by rw [hll]; omega) (by rw [hll]; omega) (fun c hc => ?_) fun v s' hv hk' => ?_
      · rw [hsl] at hc
        exact hx3 c (List.mem_of_mem_drop (List.mem_of_mem_take hc))
      · obtain ⟨h₅, k₅, rfl, hk₅⟩ := hk'
        rw [hsl] at hv
        rw [if_pos hij]
        exact ⟨hv, ⟨h₅, _, rfl, fun b o q => hk₅ b o (hk₄ b o q)⟩⟩
    · refine ite_F (by simpa using hij) ?_
      repeat walk_at "ast"
      rw [if_neg hij]
      exact ⟨rfl, ⟨_, _, rfl, fun _ _ q => q⟩⟩
  · intro D h₂ tk₂ ys hD hpl hlen hF hk₂
    have hlt : ∀ b o, s.heap.get? b = some o → b ≠ s.heap.objs.size + 1 := fun b o q => Nat.ne_of_lt (Nat.lt_succ_of_lt (Heap.lt_size q))
    refine hQ D h₂ tk₂ ?_ ⟨D, ys, rfl, hpl, hlen, hF⟩ fun b o q => hk₂ b o (hlt b o q) (hk₁ b o q)
    cases hD0 : s.heap.get? D with
    | none => rfl
    | some o =>
      have : h₁.get? D = some o := hk₁ D o hD0
      rw [this] at hD; cases hD
end Mine

end

section
namespace Mine
open PySem PySem.W PySem.Calls PyProof.Rows
set_option maxRecDepth 100000
local macro_rules | `(tactic| walk_at "gname") => `(tactic| first
  | with_reducible exact g_law_joined _
  | with_reducible exact g_law_single _
  | with_reducible exact g_law_word _
  | with_reducible exact g_law_text _
  | with_reducible exact g_law_put_ahead _
  | with_reducible exact g_reduce _
  | with_reducible exact g_fix_eols _
  | with_reducible exact g_quote_periods _
  | with_reducible exact g_quotedata _
  | with_reducible exact g_CRLF _
  | with_reducible exact g_twin_re_1 _
  | with_reducible exact g_twin_re_2 _
  | with_reducible exact g_twin_re_3 _
  | with_reducible exact g_initial_missing _)
local macro_rules | `(tactic| walk_at "gnone") => `(tactic| first
  | with_reducible exact gn_range _
  | with_reducible exact gn_len _
  | with_reducible exact gn_ord _
  | with_reducible exact gn_chr _
  | with_reducible exact gn_bytes _
  | with_reducible exact gn_sum _
  | with_reducible exact gn_iter _
  | with_reducible exact gn_next _
  | with_reducible exact gn_enumerate _)
local macro_rules | `(tactic| walk_at "bname") => `(tactic| first
  | with_reducible exact b_range
  | with_reducible exact b_len
  | with_reducible exact b_ord
  | with_reducible exact b_chr
  | with_reducible exact b_bytes
  | with_reducible exact b_sum
  | with_reducible exact b_iter
  | with_reducible exact b_next
  | with_reducible exact b_enumerate)
local macro_rules | `(tactic| walk_at "ast") => `(tactic| first
  | with_reducible refine wpAny_execs_cons ?_
  | with_reducible refine wpAny_execs_nil ?_
  | ((with_reducible refine wpAny_Assign_Name ?_ ?p1); (case p1 => rfl))
  | with_reducible refine wpAny_If ?_
  | with_reducible refine wpAny_Return_some ?_
  | with_reducible refine isTrue_and ?_
  | with_reducible refine isTrue_and_nil ?_
  | with_reducible refine wpAny_isTrue_Compare1 ?_
  | with_reducible refine wpAny_Compare1 ?_
  | with_reducible refine wpAny_IfExp ?_
  | ((with_reducible show wpAny _ _ (PySem.isTrue (Expr.Subscript _ _ _) _ _) _ _ _); refine isTrue_plain ?_ (by rfl))
  | with_reducible refine Subscript_ ?_
  | with_reducible refine wpAny_Constant_int ?_
  | with_reducible refine wpAny_Constant_str ?_
  | with_reducible refine wpAny_Constant_bool ?_
  | with_reducible refine wpAny_Constant_none ?_
  | with_reducible refine wpAny_Slice ?_
  | with_reducible refine evalPart_none_step ?_
  | with_reducible refine evalPart_some_step ?_
  | with_reducible refine wpAny_UnaryOp ?_
  | with_reducible refine neg_int ?_
  | with_reducible refine wpAny_BinOp ?_
  | with_reducible refine wpAny_Tuple ?_
  | ((with_reducible show wpAny _ _ (spliced (backTo _ (starEach (_ :: _) _))) _ _ _); refine wpAny_items_cons ?_)
  | ((with_reducible show wpAny _ _ (spliced (backTo _ (starEach [] _))) _ _ _); refine wpAny_items_nil ?_)
  | with_reducible refine wpAny_truthy_bool ?_
  | with_reducible refine PySem.P.eq_str ?_
  | with_reducible refine PySem.P.ne_str ?_
  | with_reducible refine PySem.P.in_str ?_
  | ((with_reducible show wpAny _ _ (eval (Expr.Call (Expr.Name _ _) _ [] _) _) _ _ _); refine Call_ ?_)
  | ((with_reducible show wpAny _ _ (callWith _ (Value.builtin _) [] (backTo _ (starEach (_ :: _) _)) []) _ _ _); refine PyProof.Rows.callWith_builtin1 ?_)
  | ((with_reducible show wpAny _ _ (eval (Expr.Name _ _) _) _ _ _); refine nmL (by first | assumption | exact EnvOk.comp (by assumption) _ rfl _ _) (by assumption) (by rfl) (by first | assumption | rfl) ?_ (by decide))
  | ((with_reducible show wpAny _ _ (eval (Expr.Name _ _) _) _ _ _); refine nmG (by first | assumption | exact EnvOk.comp (by assumption) _ rfl _ _) (Base.keeps (by assumption) (Fr.keep (by assumption))) (by rfl) (by walk_at "gname") ?_ (by decide))
  | ((with_reducible show wpAny _ _ (eval (Expr.Name _ _) _) _ _ _); refine nmB (by first | assumption | exact EnvOk.comp (by assumption) _ rfl _ _) (Base.keeps (by assumption) (Fr.keep (by assumption))) (by rfl) (by walk_at "gnone") (by walk_at "bname") (by decide) ?_ (by decide))
  | ((with_reducible show wpAny _ _ (eval (Expr.Name _ _) _) _ _ _); refine nmC (by first | assumption | exact EnvOk.comp (by assumption) _ rfl _ _) (by rfl) (by rfl) (by assumption) ?_ (by decide))
  | ((with_reducible show wpAny _ _ (subscriptTail _ _ (Value.ref _) (Value.int _ _)) _ _ _); refine word_item (by assumption) (by assumption) (by rfl) (by rfl) (by decide) (by decide) ?_ (by rfl)))


theorem RowAt.but {h h' : Heap} {wr : Wr} {x : List Nat} {v : Value} {i : Nat} {W : Addr} {ys : Array Value} (k : RowAt h wr x v i) (hne : v ≠ .ref W) (hW : h.PlainList W ys) (hk : ∀ b o, b ≠ W → h.get? b = some o → h'.get? b = some o) : RowAt h' wr x v i := by
  obtain ⟨r, es, rfl, ⟨n, hl⟩, hs, he⟩ := k
  refine ⟨r, es, rfl, ⟨n, hk _ _ (fun e => hne (e ▸ rfl)) hl⟩, hs, fun j y hy => ?_⟩
  have := he j y hy
  split
  · rename_i hlt
    rw [if_pos hlt] at this
    exact this.tup fun b o ht e => hk b o (not_tup_list hW e ht) e
  · rename_i hlt
    rw [if_neg hlt] at this
    exact this


theorem lst_start' {prog : Program} {w : World} {A : Around} {E : Value → Shared → Prop} {s : Shared} {env : Env} {L : Addr} {sc : Scope} {h₀ : Heap} {m : Str → Option Value} {x : Str} {v : Value} {vt vw vs vst : Option Value} {Q : Unit → Shared → Prop} (e : EnvOk env L sc) (S : LSt h₀ L s.heap m vt vw vs vst) (hx : sc.names.lookup x = some .cell) (hc : env.cells.lookup x = some (L + 4))
    (h : ∀ h', LSt h₀ L h' m vt vw vs (some v) → DK s.heap h' → Heap.SameBut (L + 4) s.heap h' → Q () { s with heap := h' }) : wpAny (model prog w) A (storeName env x v) Q E s := by
  refine wpAny_storeName_cell e.kind ((e.kinds x).trans hx) hc S.st fun h' hv hs => h h' ?_ (.cell S.st hs) hs
  exact ⟨frame_cell S.F 4 (by decide) hs, S.t.sameBut hs (nne L (by decide)), S.w.sameBut hs (nne L (by decide)), S.ws.sameBut hs (nne L (by decide)), hv⟩
theorem plainL_of {h : Heap} {W : Addr} {ys : Array Value} (x : h.PlainList W ys) : PlainL h W ys := by
  obtain ⟨n, e⟩ := x
  exact ⟨_, n, e, rfl, rfl, rfl⟩

/-- what stands outside the law's own cells, and is not W, is kept -/
def Kp (L W : Addr) (h h' : Heap) : Prop := ∀ b o, ¬ (L ≤ b ∧ b ≤ L + 4) → b ≠ W → h.get? b = some o → h'.get? b = some o
theorem Kp.of_keep {L W : Addr} {h h' : Heap} (hk : ∀ b o, h.get? b = some o → h'.get? b = some o) : Kp L W h h' := fun b o _ _ e => hk b o e
theorem Kp.trans {L W : Addr} {h h' h'' : Heap} (x : Kp L W h h') (y : Kp L W h' h'') : Kp L W h h'' := fun b o h1 h2 e => y b o h1 h2 (x b o h1 h2 e)
theorem Kp.ofL {L W : Addr} {h h' : Heap} (hk : ∀ b o, b ≠ L → h.get? b = some o → h'.get? b = some o) : Kp L W h h' := fun b o h1 _ e => hk b o (fun hb => h1 (hb ▸ ⟨Nat.le_refl _, Nat.le_add_right _ _⟩)) e
theorem Kp.same {L W : Addr} {h h' : Heap} {k : Nat} (hk : k ≤ 4) (hs : Heap.SameBut (L + k) h h') : Kp L W h h' := fun b o h1 _ e => (hs.2 b (fun hb => h1 (hb ▸ ⟨Nat.le_add_right _ _, nle L hk⟩))).trans e
theorem Kp.sameW {L W : Addr} {h h' : Heap} (hs : Heap.SameBut W h h') : Kp L W h h' := fun b o _ h2 e => (hs.2 b h2).trans e
theorem lst_local' {prog : Program} {w : World} {A : Around} {E : Value → Shared → Prop} {s : Shared} {env : Env} {L : Addr} {sc : Scope} {h₀ : Heap} {m : Str → Option Value} {x : Str} {v : Value} {vt vw vs vst : Option Value} {Q : Unit → Shared → Prop} (e : EnvOk env L sc) (S : LSt h₀ L s.heap m vt vw vs vst) (hx : sc.names.lookup x = some .local)
    (h : ∀ h', LSt h₀ L h' (fun y => if y = x then some v else m y) vt vw vs vst → DK s.heap h' → Heap.SameBut L s.heap h' → Q () { s with heap := h', toks := s.toks + 1 }) : wpAny (model prog w) A (storeName env x v) Q E s := by
  refine stL e S.F hx fun h' F' hs => h h' ?_ (.ns S.F.ns hs) hs
  have hne : ∀ k : Nat, 0 < k → L + k ≠ L := fun k hk => nz L hk
  exact ⟨F', S.t.sameBut hs (hne 1 (by decide)), S.w.sameBut hs (hne 2 (by decide)), S.ws.sameBut hs (hne 3 (by decide)), S.st.sameBut hs (hne 4 (by decide))⟩
theorem lst_words' {prog : Program} {w : World} {A : Around} {E : Value → Shared → Prop} {s : Shared} {env : Env} {L : Addr} {sc : Scope} {h₀ : Heap} {m : Str → Option Value} {x : Str} {v : Value} {vt vw vs vst : Option Value} {Q : Unit → Shared → Prop} (e : EnvOk env L sc) (S : LSt h₀ L s.heap m vt vw vs vst) (hx : sc.names.lookup x = some .cell) (hc : env.cells.lookup x = some (L + 3))
    (h : ∀ h', LSt h₀ L h' m vt vw (some v) vst → DK s.heap h' → Heap.SameBut (L + 3) s.heap h' → Q () { s with heap := h' }) : wpAny (model prog w) A (storeName env x v) Q E s := by
  refine wpAny_storeName_cell e.kind ((e.kinds x).trans hx) hc S.ws fun h' hv hs => h h' ?_ (.cell S.ws hs) hs
  exact ⟨frame_cell S.F 3 (by decide) hs, S.t.sameBut hs (nne L (by decide)), S.w.sameBut hs (nne L (by decide)), hv, S.st.sameBut hs (nne L (by decide))⟩
theorem lst_writer' {prog : Program} {w : World} {A : Around} {E : Value → Shared → Prop} {s : Shared} {env : Env} {L : Addr} {sc : Scope} {h₀ : Heap} {m : Str → Option Value} {x : Str} {v : Value} {vt vw vs vst : Option Value} {Q : Unit → Shared → Prop} (e : EnvOk env L sc) (S : LSt h₀ L s.heap m vt vw vs vst) (hx : sc.names.lookup x = some .cell) (hc : env.cells.lookup x = some (L + 2))
    (h : ∀ h', LSt h₀ L h' m vt (some v) vs vst → DK s.heap h' → Heap.SameBut (L + 2) s.heap h' → Q () { s with heap := h' }) : wpAny (model prog w) A (storeName env x v) Q E s := by
  refine wpAny_storeName_cell e.kind ((e.kinds x).trans hx) hc S.w fun h' hv hs => h h' ?_ (.cell S.w hs) hs
  exact ⟨frame_cell S.F 2 (by decide) hs, S.t.sameBut hs (nne L (by decide)), hv, S.ws.sameBut hs (nne L (by decide)), S.st.sameBut hs (nne L (by decide))⟩

theorem addr_lt1 (L n : Nat) (h : L + 4 < n) : L + 4 < n + 1 := Nat.lt_succ_of_lt h

set_option maxHeartbeats 2000000 in
theorem build_loop {prog : Program} {w : World} {A : Around} {E : Value → Shared → Prop} {s : Shared} {mg mb : Str → Option Value} {L a : Addr} {q : Str} {cd : Value} {h₀ : Heap} {m : Str → Option Value} {vst : Option Value} {wr : Wr} {x : Str} {tx tw ts : Tok} {W : Addr} {Q : Flow → Shared → Prop}
    (hA : AOk A 20) (B : Base w mg mb h₀) (S : LSt h₀ L s.heap m (some (.str x tx)) (some (.str (wstr wr) tw)) (some (.ref W)) vst) (hx : TextOk 5 10 x) (hsz : m (Str.ofString "size") = some (.int (x.cps.size : Int) ts)) (hW : s.heap.PlainList W #[]) (hW4 : L + 4 < W)
    (hQ : ∀ s' vst', LSt h₀ L s'.heap m (some (.str x tx)) (some (.str (wstr wr) tw)) (some (.ref W)) vst' → WordsAt s'.heap wr x.cps.toList W x.cps.size → Kp L W s.heap s'.heap → s'.gens = s.gens → s'.os = s.os → Q .next s') :
    wpAny (model prog w) A (exec (wst 1) (lawEnv L a q cd)) Q E s := by
  have e := lawEnv_ok L a q cd
  have hx10 := hx.2.1
  have F := S.F
  refine wpAny_For ?_ (fun _ => rfl)
  repeat walk_at "ast"
  refine PyProof.Rows.callWith_type1 ?_
  repeat walk_at "ast"
  refine iter_range1' (n := x.cps.size) rfl (by omega) fun h₁ tk₁ hk₁ hit hz₁ => ?_
  have hk₁ : ∀ b o, s.heap.get? b = some o → h₁.get? b = some o := hk₁
  have hWl : W < s.heap.objs.size := by obtain ⟨n, e⟩ := hW; exact Heap.lt_size e
  have hWI : W ≠ s.heap.objs.size + 1 := Nat.ne_of_lt (Nat.lt_succ_of_lt hWl)
  have hI4 : L + 4 < s.heap.objs.size + 1 := Nat.lt_succ_of_lt (Nat.lt_trans hW4 hWl)
  refine for_walk (PyProof.Rows.LCg.range_walks hA.handled 0 x.cps.size)
    (fun i s' => ∃ vst ys, LSt h₀ L s'.heap m (some (.str x tx)) (some (.str (wstr wr) tw)) (some (.ref W)) vst ∧ IsRangeIter s'.heap (s.heap.objs.size + 1) ((0 : Int) + (i : Nat) * 1) ((x.cps.size : Int) - (i : Nat)) 1 ∧ s'.heap.PlainList W ys ∧ ys.size = i ∧ (∀ (k : Nat) (y : Value), ys[k]? = some y → RowAt s'.heap wr x.cps.toList y k ∧ y ≠ .ref W) ∧ Kp L W s.heap s'.heap ∧ s'.gens = s.gens ∧ s'.os = s.os)
    (fun i s' hi => hi.choose_spec.choose_spec.2.1) ?_ ?_ ?_
  · rintro i s' v h' tk E' hi ⟨vst, ys, S', hit', hW', hlen, hrows, hkp, hg, ho⟩ ⟨tv, rfl⟩ hst' hk'
    have S₂ := S'.keepI hI4 hk'
    have hW₂ : h'.PlainList W ys := by obtain ⟨n, e⟩ := hW'; exact ⟨n, hk' _ _ hWI e⟩
    have d₂ : DK s'.heap h' := DK.iter hit' hk'
    refine lst_start' (h₀ := h₀) e S₂ (by rfl) (by rfl) fun h₃ S₃ d₃ hs₃ => ?_
    have hst₃ : IsRangeIter h₃ (s.heap.objs.size + 1) ((0 : Int) + ((i + 1 : Nat) : Int) * 1) ((x.cps.size : Int) - ((i + 1 : Nat) : Int)) 1 := (hs₃.2 _ (Nat.ne_of_gt hI4)).trans hst'
    rw [Int.zero_add] at S₃
    have hW₃ := plainList_dk hW₂ d₃
    dsimp only
    refine wpAny_execs_cons ?_
    refine wpAny_Expr ?_
    refine wpAny_Call_append rfl rfl rfl rfl ?_
    have c3 := S₃.ws
    repeat walk_at "ast"
    refine ⟨_, _, rfl, plainL_of hW₃, ?_⟩
    refine row_comp hA B S₃ hx hsz hi fun D h₄ tk₄ hD hrow hk₄ => ?_
    have hW₄ : h₄.PlainList W ys := by obtain ⟨n, e⟩ := hW₃; exact ⟨n, hk₄ _ _ e⟩
    refine wpAny_list_append_plain (hsz := by rw [sizeLine_eq]; omega) hW₄ fun h₅ hW₅ hs₅ => ?_
    dsimp only
    refine wpAny_execs_nil ?_
    have S₅ := (S₃.keeps hk₄).keepI hW4 fun b o hb e => (hs₅.2 b hb).trans e
    refine ⟨_, ys.push (.ref D), S₅, ?_, hW₅, by rw [Array.size_push, hlen], ?_, ?_, hg, ho⟩
    · exact (hs₅.2 _ (Ne.symm hWI)).trans (hk₄ _ _ hst₃)
    · intro k y hy
      rw [Array.getElem?_push] at hy
      split at hy
      · rename_i he
        cases hy
        have hDW : Value.ref D ≠ .ref W := by
          have hD' : h₃.get? D = none := hD
          intro e; cases e
          obtain ⟨n, e⟩ := hW₃
          rw [hD'] at e; cases e
        rw [he, hlen]
        exact ⟨hrow.but hDW hW₄ fun b o hb e => (hs₅.2 b hb).trans e, hDW⟩
      · obtain ⟨r1, r2⟩ := hrows k y hy
        exact ⟨(((r1.dk d₂).dk d₃).dk (.of_keep hk₄)).but r2 hW₄ fun b o hb e => (hs₅.2 b hb).trans e, r2⟩
    · refine Kp.trans (h' := h') ?_ (Kp.trans (.same (by decide) hs₃) (.trans (.of_keep hk₄) (.sameW hs₅)))
      exact fun b o h1 h2 e => hk' b o (Nat.ne_of_lt (Nat.lt_succ_of_lt (Heap.lt_size e))) (hkp b o h1 h2 e)
  · rintro s' h' tk ⟨vst, ys, S', hit', hW', hlen, hrows, hkp, hg, ho⟩ hk'
    refine hQ _ vst (S'.keepI hI4 hk') ?_ (fun b o h1 h2 e => hk' b o (Nat.ne_of_lt (Nat.lt_succ_of_lt (Heap.lt_size e))) (hkp b o h1 h2 e)) hg ho
    obtain ⟨n, e⟩ := hW'
    exact ⟨ys, ⟨n, hk' _ _ hWI e⟩, hlen, fun k y hy => (hrows k y hy).1.dk (.iter hit' hk')⟩
  · refine ⟨_, #[], S.keeps hk₁, hit, ?_, rfl, fun k y hy => by simp at hy, .of_keep hk₁, rfl, rfl⟩
    obtain ⟨n, e⟩ := hW
    exact ⟨n, hk₁ _ _ e⟩
end Mine

end

section
namespace Mine
open PySem PySem.W PySem.Calls PyProof.Rows
set_option maxRecDepth 100000
local macro_rules | `(tactic| walk_at "gname") => `(tactic| first
  | with_reducible exact g_law_joined _
  | with_reducible exact g_law_single _
  | with_reducible exact g_law_word _
  | with_reducible exact g_law_text _
  | with_reducible exact g_law_put_ahead _
  | with_reducible exact g_reduce _
  | with_reducible exact g_fix_eols _
  | with_reducible exact g_quote_periods _
  | with_reducible exact g_quotedata _
  | with_reducible exact g_CRLF _
  | with_reducible exact g_twin_re_1 _
  | with_reducible exact g_twin_re_2 _
  | with_reducible exact g_twin_re_3 _
  | with_reducible exact g_initial_missing _)
local macro_rules | `(tactic| walk_at "gnone") => `(tactic| first
  | with_reducible exact gn_range _
  | with_reducible exact gn_len _
  | with_reducible exact gn_ord _
  | with_reducible exact gn_chr _
  | with_reducible exact gn_bytes _
  | with_reducible exact gn_sum _
  | with_reducible exact gn_iter _
  | with_reducible exact gn_next _
  | with_reducible exact gn_enumerate _)
local macro_rules | `(tactic| walk_at "bname") => `(tactic| first
  | with_reducible exact b_range
  | with_reducible exact b_len
  | with_reducible exact b_ord
  | with_reducible exact b_chr
  | with_reducible exact b_bytes
  | with_reducible exact b_sum
  | with_reducible exact b_iter
  | with_reducible exact b_next
  | with_reducible exact b_enumerate)
local macro_rules | `(tactic| walk_at "ast") => `(tactic| first
  | with_reducible refine wpAny_execs_cons ?_
  | with_reducible refine wpAny_execs_nil ?_
  | ((with_reducible refine wpAny_Assign_Name ?_ ?p1); (case p1 => rfl))
  | with_reducible refine wpAny_If ?_
  | with_reducible refine wpAny_Return_some ?_
  | with_reducible refine isTrue_and ?_
  | with_reducible refine isTrue_and_nil ?_
  | with_reducible refine wpAny_isTrue_Compare1 ?_
  | with_reducible refine wpAny_Compare1 ?_
  | with_reducible refine wpAny_IfExp ?_
  | ((with_reducible show wpAny _ _ (PySem.isTrue (Expr.Subscript _ _ _) _ _) _ _ _); refine isTrue_plain ?_ (by rfl))
  | with_reducible refine Subscript_ ?_
  | with_reducible refine wpAny_Constant_int ?_
  | with_reducible refine wpAny_Constant_str ?_
  | with_reducible refine wpAny_Constant_bool ?_
  | with_reducible refine wpAny_Constant_none ?_
  | with_reducible refine wpAny_Slice ?_
  | with_reducible refine evalPart_none_step ?_
  | with_reducible refine evalPart_some_step ?_
  | with_reducible refine wpAny_UnaryOp ?_
  | with_reducible refine neg_int ?_
  | with_reducible refine wpAny_BinOp ?_
  | with_reducible refine wpAny_Tuple ?_
  | ((with_reducible show wpAny _ _ (spliced (backTo _ (starEach (_ :: _) _))) _ _ _); refine wpAny_items_cons ?_)
  | ((with_reducible show wpAny _ _ (spliced (backTo _ (starEach [] _))) _ _ _); refine wpAny_items_nil ?_)
  | with_reducible refine wpAny_truthy_bool ?_
  | with_reducible refine PySem.P.eq_str ?_
  | with_reducible refine PySem.P.ne_str ?_
  | with_reducible refine PySem.P.in_str ?_
  | ((with_reducible show wpAny _ _ (eval (Expr.Call (Expr.Name _ _) _ [] _) _) _ _ _); refine Call_ ?_)
  | ((with_reducible show wpAny _ _ (callWith _ (Value.builtin _) [] (backTo _ (starEach (_ :: _) _)) []) _ _ _); refine PyProof.Rows.callWith_builtin1 ?_)
  | ((with_reducible show wpAny _ _ (eval (Expr.Name _ _) _) _ _ _); refine nmL (by first | assumption | exact EnvOk.comp (by assumption) _ rfl _ _) (by assumption) (by rfl) (by first | assumption | rfl) ?_ (by decide))
  | ((with_reducible show wpAny _ _ (eval (Expr.Name _ _) _) _ _ _); refine nmG (by first | assumption | exact EnvOk.comp (by assumption) _ rfl _ _) (Base.keeps (by assumption) (Fr.keep (by assumption))) (by rfl) (by walk_at "gname") ?_ (by decide))
  | ((with_reducible show wpAny _ _ (eval (Expr.Name _ _) _) _ _ _); refine nmB (by first | assumption | exact EnvOk.comp (by assumption) _ rfl _ _) (Base.keeps (by assumption) (Fr.keep (by assumption))) (by rfl) (by walk_at "gnone") (by walk_at "bname") (by decide) ?_ (by decide))
  | ((with_reducible show wpAny _ _ (eval (Expr.Name _ _) _) _ _ _); refine nmC (by first | assumption | exact EnvOk.comp (by assumption) _ rfl _ _) (by rfl) (by rfl) (by assumption) ?_ (by decide))
  | ((with_reducible show wpAny _ _ (subscriptTail _ _ (Value.ref _) (Value.int _ _)) _ _ _); refine word_item (by assumption) (by assumption) (by rfl) (by rfl) (by decide) (by decide) ?_ (by rfl)))


section
variable {prog : Program} {w : World} {A : Around} {E : Value → Shared → Prop} {env : Env}

theorem comp_assign {s : Shared} {elt iter : Expr} {x y : Str} {px py : Pos} {scope : Scope} {cl : List (Str × Addr)} {pos spos : Pos} {Q : Flow → Shared → Prop} (F : Nat → Value → Heap → Prop)
    (hmono : ∀ i y h h', F i y h → (∀ b o, Tup o → h.get? b = some o → h'.get? b = some o) → F i y h')
    (hsw : swapsWith (.ListComp elt [⟨.Name x px, iter, [], 0⟩] scope pos) (some (.Name y py)) spos.line env = pure true)
    (hclos : closureFor scope env = pure cl) (hcell : ∀ y ∈ scope.names, y.2 ≠ .cell) (hkind : scope.kind = .function)
    (hnames : ∀ y ∈ scope.names, y.2 = .local → scope.names.lookup y.1 = some .local) (hx : scope.names.lookup x = some .local)
    (hy : env.kindOf y = some .local) (hp : (env.scope.kind == .class || (env.scope.kind == .module && env.locals != env.globals)) = false)
    (h : wpAny (model prog w) A (eval iter env) (fun xv s₁ => wpAny (model prog w) A (pyIter xv) (fun it s₂ => ∃ I fp n P St m, it = .ref I ∧ Walks prog w A I fp [I] n P St ∧ n ≤ sizeLine ∧ (∀ i h, St i h → ∃ o, h.get? I = some o ∧ ¬ Tup o) ∧ St 0 s₂.heap ∧ (∀ b ∈ fp, b < s₂.heap.objs.size) ∧ env.locals ≠ I ∧ s₂.heap.Ns env.locals m ∧
      (∀ C i v s₃ m₃ E', s₂.heap.objs.size < C → i < n → P i v → s₃.heap.Ns C m₃ → m₃ x = some v → (∀ b o, b ≠ I → s₂.heap.get? b = some o → s₃.heap.get? b = some o) →
        wpAny (model prog w) A (eval elt (compEnvC scope cl C env)) (fun y s₄ => F i y s₄.heap ∧ Keeps s₃ s₄) E' s₃) ∧
      (∀ D h' tk ys, s₂.heap.get? D = none → h'.PlainList D ys → ys.size = n → (∀ i y, ys[i]? = some y → F i y h') →
        h'.Ns env.locals (fun z => if z = y then some (.ref D) else m z) → (∀ b o, b ≠ env.locals → b ≠ I → s₂.heap.get? b = some o → h'.get? b = some o) → Q .next { s₂ with heap := h', toks := tk })) E s₁) E s)
    (hs : ∀ x, foldedSetIterable iter env x = pure x) :
    wpAny (model prog w) A (exec (.Assign [.Name y py] (.ListComp elt [⟨.Name x px, iter, [], 0⟩] scope pos) spos) env) Q E s := by
  rw [exec_Assign_Name_used _ _ _ _ hsw]
  refine wpAny_bind (wpAny_standAt (wpAny_bind ?_))
  show wpAny _ A (do let _ ← comprehension (.ListComp elt [⟨.Name x px, iter, [], 0⟩] scope pos) scope env _ (newList []) false (eval iter env) (some (assign (.Name y py) env))) _ _ s
  refine wpAny_bind (wpAny_mono (wpAny_comprehension_free (use := some (assign (.Name y py) env)) (Q := fun _ s' => Q .next s') rfl hs hclos hkind hnames
    (wpAny_mono h (fun xv s₁ h₁ => wpAny_mono h₁ (fun it s₂ h₂ => ?_) fun _ _ e => e) fun _ _ e => e)) (fun _ s' hq => wpAny_pure (wpAny_pure hq)) fun _ _ e => e)
  obtain ⟨I, fp, n, P, St, mL, rfl, W, hsz, hlive, hst, hfp, hLI, hnL, hq, hQ⟩ := h₂
  refine wpAny_newObj_type (wpAny_newFunctionEnv hcell (by intro y hy; simp at hy) (fun h₁ hns₁ hsb₁ => ?_) hkind)
  dsimp only at hns₁ hsb₁ ⊢
  generalize hH2 : s₂.heap.push { cls := .type "list", dict := none, data := .seq ([] : List Value).toArray } = H2 at hns₁ hsb₁ ⊢
  have hC : H2.objs.size = s₂.heap.objs.size + 1 := by rw [← hH2, Heap.size_push]
  have hDC : s₂.heap.objs.size ≠ H2.objs.size := by rw [hC]; exact Nat.ne_of_lt (Nat.lt_succ_self _)
  have below : ∀ b, b < s₂.heap.objs.size → b ≠ H2.objs.size ∧ b ≠ s₂.heap.objs.size := fun b hb => ⟨by rw [hC]; exact Nat.ne_of_lt (Nat.lt_succ_of_lt hb), Nat.ne_of_lt hb⟩
  have hDf : s₂.heap.objs.size ∉ fp := fun hm => Nat.lt_irrefl _ (hfp _ hm)
  have hCf : H2.objs.size ∉ fp := fun hm => by have := hfp _ hm; rw [hC] at this; exact Nat.lt_irrefl _ (Nat.lt_of_succ_lt this)
  have old : ∀ b o, s₂.heap.get? b = some o → h₁.get? b = some o := fun b o e => hsb₁.extBut b o (below b (Heap.lt_size e)).1 (Heap.get?_push_of_some _ (hH2 ▸ Heap.get?_push_of_some _ e))
  have hacc : h₁.PlainList s₂.heap.objs.size #[] := ⟨_, hsb₁.extBut _ _ hDC (Heap.get?_push_of_some _ (hH2 ▸ Heap.get?_push_size _ rfl))⟩
  have hst₁ : St 0 h₁ := W.frame _ _ _ hst fun b _ o e => old b o e
  have fresh : ∀ a, s₂.heap.objs.size ≤ a → s₂.heap.get? a = none := fun a ha => by
    cases e : s₂.heap.get? a with
    | none => rfl
    | some o' => exact absurd (Heap.lt_size e) (Nat.not_lt.mpr ha)
  have loop : ∀ s₃ : Shared, s₃ = { s₂ with heap := h₁, toks := s₂.toks + ([] : List (Str × Value)).length } →
      codeAny (model prog w) A (.compLoop (.ListComp elt [⟨.Name x px, iter, [], 0⟩] scope pos) 0 (.ref I) (.ref s₂.heap.objs.size) (compEnvC scope cl H2.objs.size env))
        (compPost (model prog w) A E (some (assign (.Name y py) env)) (fun _ s' => Q .next s') (.ref s₂.heap.objs.size) H2.objs.size) s₃ := by
    rintro s₃ rfl
    refine compLoopH (cenv := compEnvC scope cl H2.objs.size env) W F hmono hlive (lookup_relabel_local hx) (by simp [compEnvC, relabel, hkind]) hDC hDf hCf hst₁ hacc hns₁
      (fun i v s₃ m₃ hi hv hn hm hk => hq H2.objs.size i v s₃ m₃ _ (by rw [hC]; exact Nat.lt_succ_self _) hi hv hn hm (fun b o hbI e => hk b o (below b (Heap.lt_size e)).1 hbI (below b (Heap.lt_size e)).2 (old b o e))) (fun h' tk m' ys hn hpl hlen hF hk => ?_) hsz
    have hLlt : env.locals < s₂.heap.objs.size := hnL.lt
    have hLC := (below _ hLlt).1
    have hLD := (below _ hLlt).2
    show wpAny _ A (assign (.Name y py) env (.ref s₂.heap.objs.size)) _ _ _
    refine wpAny_assign_Name (wpAny_storeName_local hy (hnL.at' fun o e => hk _ o hLC hLI hLD (old _ o e)) (fun h₂ hn₂ hs₂ => ?_) hp)
    refine ⟨m', hn.sameBut hs₂ (Ne.symm hLC), fun h₃ hs₃ => ?_⟩
    refine hQ _ h₃ _ ys (fresh _ (Nat.le_refl _)) ((hpl.extBut hs₂.extBut (Ne.symm hLD)).extBut hs₃.extBut hDC) hlen (fun i y hy => ?_) (hn₂.sameBut hs₃ hLC) fun b o hbL hbI e =>
      hs₃.extBut b o (below b (Heap.lt_size e)).1 (hs₂.extBut b o hbL (hk b o (below b (Heap.lt_size e)).1 hbI (below b (Heap.lt_size e)).2 (old b o e)))
    have hnL' := hnL.at' (h' := h') fun o e => hk _ o hLC hLI hLD (old _ o e)
    refine hmono _ _ _ _ (hF i y hy) fun b o ht e => ?_
    have e2 := hs₂.extBut b o (not_tup_ns hnL' e ht) e
    exact hs₃.extBut b o (not_tup_ns (hn.sameBut hs₂ (Ne.symm hLC)) e2 ht) e2
  exact codeAny_compStart_list (loop _ rfl) (W.self 0 _ _ _ hst₁ (loop _ rfl))
end

/-- the singles -/
def SinglesAt (h : Heap) (wr : Wr) (x : List Nat) (D : Addr) : Prop := ∃ ys, h.PlainList D ys ∧ ys.size = x.length ∧ ∀ (i : Nat) (y : Value) (c : Nat), ys[i]? = some y → x[i]? = some c → WordAt h y (single wr c)
theorem SinglesAt.dk {h h' : Heap} {wr : Wr} {x : List Nat} {D : Addr} (k : SinglesAt h wr x D) (hk : DK h h') : SinglesAt h' wr x D := by
  obtain ⟨ys, hl, hs, hr⟩ := k
  exact ⟨ys, plainList_dk hl hk, hs, fun i y c hy hc => (hr i y c hy hc).dk hk⟩

theorem LSt.keepL {h₀ h h' : Heap} {L : Addr} {m m' : Str → Option Value} {vt vw vs vst : Option Value} (S : LSt h₀ L h m vt vw vs vst) (hn : h'.Ns L m') (hk : ∀ b o, b ≠ L → h.get? b = some o → h'.get? b = some o) : LSt h₀ L h' m' vt vw vs vst := by
  have hc : ∀ {k : Nat} {v : Option Value}, 0 < k → h.IsCell (L + k) v → h'.IsCell (L + k) v := by
    rintro k v hle ⟨o, ho, hd⟩
    exact ⟨o, hk _ o (nz L hle) ho, hd⟩
  exact ⟨⟨hn, fun b o e => hk b o (Nat.ne_of_lt (Nat.lt_of_lt_of_le (Heap.lt_size e) S.F.above)) (S.F.keep b o e), S.F.above⟩, hc (by decide) S.t, hc (by decide) S.w, hc (by decide) S.ws, hc (by decide) S.st⟩

theorem DK.keepL {h h' : Heap} {L : Addr} {m : Str → Option Value} (hn : h.Ns L m) (hk : ∀ b o, b ≠ L → h.get? b = some o → h'.get? b = some o) : DK h h' := fun b o d e => hk b o (by
  rintro rfl
  obtain ⟨o', es, ep, ho, hd, _⟩ := hn
  rw [ho] at e; cases e
  obtain ⟨items, n, hd'⟩ := d.seq
  rw [hd] at hd'; cases hd') e

set_option maxHeartbeats 2000000 in
theorem singles_st {prog : Program} {w : World} {A : Around} {E : Value → Shared → Prop} {s : Shared} {mg mb : Str → Option Value} {L a : Addr} {q : Str} {cd : Value} {h₀ : Heap} {m : Str → Option Value} {vs vst : Option Value} {wr : Wr} {x : Str} {tx tw : Tok} {Q : Flow → Shared → Prop}
    (hA : AOk A 20) (B : Base w mg mb h₀) (S : LSt h₀ L s.heap m (some (.str x tx)) (some (.str (wstr wr) tw)) vs vst) (hx : TextOk 5 10 x)
    (hQ : ∀ D s', LSt h₀ L s'.heap (fun y => if y = Str.ofString "singles" then some (.ref D) else m y) (some (.str x tx)) (some (.str (wstr wr) tw)) vs vst → SinglesAt s'.heap wr x.cps.toList D → DK s.heap s'.heap → (∀ b o, b ≠ L → s.heap.get? b = some o → s'.heap.get? b = some o) → s'.gens = s.gens → s'.os = s.os → Q .next s') :
    wpAny (model prog w) A (exec (wst 2) (lawEnv L a q cd)) Q E s := by
  have e := lawEnv_ok L a q cd
  have hx10 := hx.2.1
  obtain ⟨F, c1, c2, c3, c4⟩ := id S
  refine comp_assign (cl := [(Str.ofString "writer", L + 2)]) (F := fun i y h => ∀ c, x.cps.toList[i]? = some c → WordAt h y (single wr c)) (fun i y h h' hF hk c hc => (hF c hc).tup hk) rfl rfl (by decide) rfl (by decide) rfl rfl rfl ?_ (fun _ => rfl)
  repeat walk_at "ast"
  refine iter_str fun o St W hlive hst => ?_
  have hLs : L < s.heap.objs.size := F.ns.lt
  have up : ∀ b ob, s.heap.get? b = some ob → (s.heap.push o).get? b = some ob := fun b ob e => Heap.get?_push_of_some _ e
  refine ⟨_, _, _, _, St, _, rfl, W _ hA.handled, by rw [sizeLine_eq]; omega, hlive, hst, ?_, Nat.ne_of_lt hLs, F.ns.at' fun ob e => up _ ob e, ?_, ?_⟩
  · intro b hb
    rw [List.mem_singleton.mp hb]
    show s.heap.objs.size < (s.heap.push o).objs.size
    rw [Heap.size_push]; exact Nat.lt_succ_self _
  · intro C i v s₃ m₃ E'' hC hi hP hn hm hk
    obtain ⟨c, u, hc, rfl⟩ := hP
    have hCs : s.heap.objs.size ≤ C := by
      have : (s.heap.push o).objs.size < C := hC
      rw [Heap.size_push] at this
      exact Nat.le_of_lt (Nat.lt_of_succ_lt this)
    have hk3 : ∀ b ob, s.heap.get? b = some ob → s₃.heap.get? b = some ob := fun b ob e => hk b ob (Nat.ne_of_lt (Heap.lt_size e)) (up b ob e)
    have Fc : Fr s.heap C s₃.heap m₃ := ⟨hn, hk3, hCs⟩
    have B₁ : Base w mg mb s.heap := B.keeps F.keep
    have d2 := c2.keeps hk3
    repeat walk_at "ast"
    refine cw_fn (fn_single _) ?_
    repeat walk_at "ast"
    refine ⟨(B₁.keeps hk3).k, ?_⟩
    refine call_single (n := 20) hA (by omega) (B₁.keeps hk3) fun v s' hv hk' => ?_
    refine ⟨fun c' hc' => ?_, hk'⟩
    have : x.cps.toList[i]? = some c := by simpa using hc
    rw [this] at hc'
    cases hc'
    exact hv
  · intro D h₂ tk₂ ys hD hpl hlen hF hns hk₂
    have hk2 : ∀ b ob, b ≠ L → s.heap.get? b = some ob → h₂.get? b = some ob := fun b ob hb e => hk₂ b ob hb (Nat.ne_of_lt (Heap.lt_size e)) (up b ob e)
    exact hQ D _ (S.keepL hns hk2) ⟨ys, hpl, hlen, fun i y c hy hc => hF i y hy c hc⟩ (.keepL F.ns hk2) hk2 rfl rfl
end Mine

end

section
namespace Mine
open PySem PySem.W PySem.Calls PyProof.Rows
set_option maxRecDepth 100000
local macro_rules | `(tactic| walk_at "gname") => `(tactic| first
  | with_reducible exact g_law_joined _
  | with_reducible exact g_law_single _
  | with_reducible exact g_law_word _
  | with_reducible exact g_law_text _
  | with_reducible exact g_law_put_ahead _
  | with_reducible exact g_reduce _
  | with_reducible exact g_fix_eols _
  | with_reducible exact g_quote_periods _
  | with_reducible exact g_quotedata _
  | with_reducible exact g_CRLF _
  | with_reducible exact g_twin_re_1 _
  | with_reducible exact g_twin_re_2 _
  | with_reducible exact g_twin_re_3 _
  | with_reducible exact g_initial_missing _)
local macro_rules | `(tactic| walk_at "gnone") => `(tactic| first
  | with_reducible exact gn_range _
  | with_reducible exact gn_len _
  | with_reducible exact gn_ord _
  | with_reducible exact gn_chr _
  | with_reducible exact gn_bytes _
  | with_reducible exact gn_sum _
  | with_reducible exact gn_iter _
  | with_reducible exact gn_next _
  | with_reducible exact gn_enumerate _)
local macro_rules | `(tactic| walk_at "bname") => `(tactic| first
  | with_reducible exact b_range
  | with_reducible exact b_len
  | with_reducible exact b_ord
  | with_reducible exact b_chr
  | with_reducible exact b_bytes
  | with_reducible exact b_sum
  | with_reducible exact b_iter
  | with_reducible exact b_next
  | with_reducible exact b_enumerate)
local macro_rules | `(tactic| walk_at "ast") => `(tactic| first
  | with_reducible refine wpAny_execs_cons ?_
  | with_reducible refine wpAny_execs_nil ?_
  | ((with_reducible refine wpAny_Assign_Name ?_ ?p1); (case p1 => rfl))
  | with_reducible refine wpAny_If ?_
  | with_reducible refine wpAny_Return_some ?_
  | with_reducible refine isTrue_and ?_
  | with_reducible refine isTrue_and_nil ?_
  | with_reducible refine wpAny_isTrue_Compare1 ?_
  | with_reducible refine wpAny_Compare1 ?_
  | with_reducible refine wpAny_IfExp ?_
  | ((with_reducible show wpAny _ _ (PySem.isTrue (Expr.Subscript _ _ _) _ _) _ _ _); refine isTrue_plain ?_ (by rfl))
  | with_reducible refine Subscript_ ?_
  | with_reducible refine wpAny_Constant_int ?_
  | with_reducible refine wpAny_Constant_str ?_
  | with_reducible refine wpAny_Constant_bool ?_
  | with_reducible refine wpAny_Constant_none ?_
  | with_reducible refine wpAny_Slice ?_
  | with_reducible refine evalPart_none_step ?_
  | with_reducible refine evalPart_some_step ?_
  | with_reducible refine wpAny_UnaryOp ?_
  | with_reducible refine neg_int ?_
  | with_reducible refine wpAny_BinOp ?_
  | with_reducible refine wpAny_Tuple ?_
  | ((with_reducible show wpAny _ _ (spliced (backTo _ (starEach (_ :: _) _))) _ _ _); refine wpAny_items_cons ?_)
  | ((with_reducible show wpAny _ _ (spliced (backTo _ (starEach [] _))) _ _ _); refine wpAny_items_nil ?_)
  | with_reducible refine wpAny_truthy_bool ?_
  | with_reducible refine PySem.P.eq_str ?_
  | with_reducible refine PySem.P.ne_str ?_
  | with_reducible refine PySem.P.in_str ?_
  | ((with_reducible show wpAny _ _ (eval (Expr.Call (Expr.Name _ _) _ [] _) _) _ _ _); refine Call_ ?_)
  | ((with_reducible show wpAny _ _ (callWith _ (Value.builtin _) [] (backTo _ (starEach (_ :: _) _)) []) _ _ _); refine PyProof.Rows.callWith_builtin1 ?_)
  | ((with_reducible show wpAny _ _ (eval (Expr.Name _ _) _) _ _ _); refine nmL (by first | assumption | exact EnvOk.comp (by assumption) _ rfl _ _) (by assumption) (by rfl) (by first | assumption | rfl) ?_ (by decide))
  | ((with_reducible show wpAny _ _ (eval (Expr.Name _ _) _) _ _ _); refine nmG (by first | assumption | exact EnvOk.comp (by assumption) _ rfl _ _) (Base.keeps (by assumption) (Fr.keep (by assumption))) (by rfl) (by walk_at "gname") ?_ (by decide))
  | ((with_reducible show wpAny _ _ (eval (Expr.Name _ _) _) _ _ _); refine nmB (by first | assumption | exact EnvOk.comp (by assumption) _ rfl _ _) (Base.keeps (by assumption) (Fr.keep (by assumption))) (by rfl) (by walk_at "gnone") (by walk_at "bname") (by decide) ?_ (by decide))
  | ((with_reducible show wpAny _ _ (eval (Expr.Name _ _) _) _ _ _); refine nmC (by first | assumption | exact EnvOk.comp (by assumption) _ rfl _ _) (by rfl) (by rfl) (by assumption) ?_ (by decide))
  | ((with_reducible show wpAny _ _ (subscriptTail _ _ (Value.ref _) (Value.int _ _)) _ _ _); refine word_item (by assumption) (by assumption) (by rfl) (by rfl) (by decide) (by decide) ?_ (by rfl)))


theorem litem {prog : Program} {w : World} {A : Around} {E : Value → Shared → Prop} {s : Shared} {value slice : Expr} {D : Addr} {items : Array Value} {k : Int} {i : Nat} {u : Tok} {v : Value} {Q : Value → Shared → Prop} (hl : s.heap.PlainList D items) (hk : k = (i : Int)) (hi : i < 10000) (hv : items[i]? = some v)
    (hQ : Q v s) (hs : subscripted slice false (.ref D) (.int k u) = operate [.ref D, .int k u] (getItem (.ref D) (.int k u))) : wpAny (model prog w) A (subscriptTail value slice (.ref D) (.int k u)) Q E s := by
  subst hk
  exact tail_any (T := "list") hl.isList.typeIs list_getitem_lookup (wpAny_getItem_list hl.isList (by omega) (by omega) (by simpa using hv) hQ) hs

theorem words_row {h : Heap} {wr : Wr} {x : List Nat} {W : Addr} {n i : Nat} (hW : WordsAt h wr x W n) (hi : i < n) : ∃ ys r es, h.PlainList W ys ∧ ys[i]? = some (.ref r) ∧ h.PlainList r es ∧ ∀ j, i < j → j ≤ x.length → ∃ y, es[j]? = some y ∧ WordAt h y (wordOf wr ((x.drop i).take (j - i))) := by
  obtain ⟨ys, hl, hs, hr⟩ := hW
  have hi' : i < ys.size := by omega
  obtain ⟨r, es, hv, hes, hsz, hw⟩ := hr i _ (Array.getElem?_eq_getElem hi')
  refine ⟨ys, r, es, hl, by rw [Array.getElem?_eq_getElem hi', hv], hes, fun j hij hj => ?_⟩
  have hj' : j < es.size := by omega
  have := hw j _ (Array.getElem?_eq_getElem hj')
  rw [if_pos hij] at this
  exact ⟨_, Array.getElem?_eq_getElem hj', this⟩

theorem one_at (x : List Nat) (i c : Nat) (h : x[i]? = some c) : (x.drop i).take (i + 1 - i) = [c] := by
  obtain ⟨hi, hc⟩ := List.getElem?_eq_some_iff.mp h
  rw [Nat.add_sub_cancel_left, List.drop_eq_getElem_cons hi, hc]
  rfl

set_option maxHeartbeats 2000000 in
theorem if_singles {prog : Program} {w : World} {A : Around} {E : Value → Shared → Prop} {s : Shared} {mg mb : Str → Option Value} {L a : Addr} {q : Str} {cd : Value} {h₀ : Heap} {m : Str → Option Value} {vt vw vst : Option Value} {wr : Wr} {x : Str} {ts : Tok} {W D : Addr} {Q : Flow → Shared → Prop}
    (hA : AOk A 20) (hu : A.units + 10 < cLine) (B : Base w mg mb h₀) (S : LSt h₀ L s.heap m vt vw (some (.ref W)) vst) (hx : TextOk 5 10 x) (hsz : m (Str.ofString "size") = some (.int (x.cps.size : Int) ts)) (hW : WordsAt s.heap wr x.cps.toList W x.cps.size)
    (hms : m (Str.ofString "singles") = some (.ref D)) (hD : SinglesAt s.heap wr x.cps.toList D)
    (hQ : ∀ s', (∀ b o, s.heap.get? b = some o → s'.heap.get? b = some o) → s'.gens = s.gens → s'.os = s.os → Q .next s') :
    wpAny (model prog w) A (exec (wst 3) (lawEnv L a q cd)) Q E s := by
  have e := lawEnv_ok L a q cd
  have hx10 := hx.2.1
  obtain ⟨F, c1, c2, c3, c4⟩ := id S
  refine wpAny_If ?_
  repeat walk_at "ast"
  refine comp_rule (cl := [(Str.ofString "words", L + 3)]) (F := fun i y h => ∀ c, x.cps.toList[i]? = some c → WordAt h y (single wr c)) (fun i y h h' hF hk c hc => (hF c hc).tup hk) rfl (by decide) rfl (by decide) rfl ?_ (fun _ => rfl)
  repeat walk_at "ast"
  refine PyProof.Rows.callWith_type1 ?_
  repeat walk_at "ast"
  refine iter_range1' (n := x.cps.size) rfl (by omega) fun h₁ tk₁ hk₁ hit hz₁ => ?_
  have hk₁ : ∀ b o, s.heap.get? b = some o → h₁.get? b = some o := hk₁
  have hlt : ∀ b o, s.heap.get? b = some o → b ≠ s.heap.objs.size + 1 := fun b o q => Nat.ne_of_lt (Nat.lt_succ_of_lt (Heap.lt_size q))
  refine ⟨_, _, _, _, _, rfl, PyProof.Rows.LCg.range_walks hA.handled 0 (x.cps.size), by rw [sizeLine_eq]; omega, fun j h hj => rangeIter_live hj, hit, ?_, ?_, ?_⟩
  · intro b hb
    rw [List.mem_singleton.mp hb]
    show s.heap.objs.size + 1 < h₁.objs.size
    rw [hz₁]; exact Nat.lt_succ_self _
  · intro C j v s₃ m₃ E' hC hj hv hn hm hk₃
    obtain ⟨tv, rfl⟩ := hv
    have hk : ∀ b o, s.heap.get? b = some o → s₃.heap.get? b = some o := fun b o q => hk₃ b o (hlt b o q) (hk₁ b o q)
    have hCs : s.heap.objs.size ≤ C := by
      have : h₁.objs.size < C := hC
      rw [hz₁] at this
      exact Nat.le_of_lt (Nat.lt_of_succ_lt (Nat.lt_of_succ_lt this))
    have Fc : Fr s.heap C s₃.heap m₃ := ⟨hn, hk, hCs⟩
    have d3 := c3.keeps hk
    obtain ⟨ys, r, es, g1, g2, g3, g4⟩ := words_row (hW.dk (.of_keep hk)) hj
    have hxl : x.cps.toList.length = x.cps.size := rfl
    obtain ⟨y, g5, g6⟩ := g4 (j + 1) (Nat.lt_succ_self _) (by omega)
    repeat walk_at "ast"
    refine litem g1 (i := j) (by omega) (by omega) g2 ?_ rfl
    repeat walk_at "ast"
    refine PyProof.Rows.add_int ?_
    refine litem g3 (i := j + 1) (by omega) (by omega) g5 ?_ rfl
    refine ⟨fun c hc => ?_, ⟨_, _, rfl, fun _ _ q => q⟩⟩
    rw [one_at _ _ _ hc, word_single] at g6
    exact g6
  · intro D₂ h₂ tk₂ ys hD₂ hpl hlen hF hk₂
    have hk2 : ∀ b o, s.heap.get? b = some o → h₂.get? b = some o := fun b o q => hk₂ b o (hlt b o q) (hk₁ b o q)
    have S₂ := S.keeps hk2
    have F₂ := S₂.F
    obtain ⟨zs, z1, z2, z3⟩ := hD.dk (.of_keep hk2)
    repeat walk_at "ast"
    refine ne_lists (ws := x.cps.toList.map (single wr)) hu hpl.isList z1.isList (by rw [List.length_map]; exact hlen) (by rw [List.length_map]; exact z2) ?_ ?_ ?_
    · intro i y v hy hv
      rw [List.getElem?_map] at hv
      cases hc : x.cps.toList[i]? with
      | none => rw [hc] at hv; cases hv
      | some c => rw [hc] at hv; cases hv; exact hF i y hy c hc
    · intro i y v hy hv
      rw [List.getElem?_map] at hv
      cases hc : x.cps.toList[i]? with
      | none => rw [hc] at hv; cases hv
      | some c => rw [hc] at hv; cases hv; exact z3 i y c hy hc
    · repeat walk_at "ast"
      refine ite_F rfl ?_
      repeat walk_at "ast"
      exact hQ _ hk2 rfl rfl
end Mine

end

section
namespace Mine
open PySem PySem.W PySem.Calls PyProof.Rows
set_option maxRecDepth 100000
local macro_rules | `(tactic| walk_at "gname") => `(tactic| first
  | with_reducible exact g_law_joined _
  | with_reducible exact g_law_single _
  | with_reducible exact g_law_word _
  | with_reducible exact g_law_text _
  | with_reducible exact g_law_put_ahead _
  | with_reducible exact g_reduce _
  | with_reducible exact g_fix_eols _
  | with_reducible exact g_quote_periods _
  | with_reducible exact g_quotedata _
  | with_reducible exact g_CRLF _
  | with_reducible exact g_twin_re_1 _
  | with_reducible exact g_twin_re_2 _
  | with_reducible exact g_twin_re_3 _
  | with_reducible exact g_initial_missing _)
local macro_rules | `(tactic| walk_at "gnone") => `(tactic| first
  | with_reducible exact gn_range _
  | with_reducible exact gn_len _
  | with_reducible exact gn_ord _
  | with_reducible exact gn_chr _
  | with_reducible exact gn_bytes _
  | with_reducible exact gn_sum _
  | with_reducible exact gn_iter _
  | with_reducible exact gn_next _
  | with_reducible exact gn_enumerate _)
local macro_rules | `(tactic| walk_at "bname") => `(tactic| first
  | with_reducible exact b_range
  | with_reducible exact b_len
  | with_reducible exact b_ord
  | with_reducible exact b_chr
  | with_reducible exact b_bytes
  | with_reducible exact b_sum
  | with_reducible exact b_iter
  | with_reducible exact b_next
  | with_reducible exact b_enumerate)
local macro_rules | `(tactic| walk_at "ast") => `(tactic| first
  | with_reducible refine wpAny_execs_cons ?_
  | with_reducible refine wpAny_execs_nil ?_
  | ((with_reducible refine wpAny_Assign_Name ?_ ?p1); (case p1 => rfl))
  | with_reducible refine wpAny_If ?_
  | with_reducible refine wpAny_Return_some ?_
  | with_reducible refine isTrue_and ?_
  | with_reducible refine isTrue_and_nil ?_
  | with_reducible refine wpAny_isTrue_Compare1 ?_
  | with_reducible refine wpAny_Compare1 ?_
  | with_reducible refine wpAny_IfExp ?_
  | ((with_reducible show wpAny _ _ (PySem.isTrue (Expr.Subscript _ _ _) _ _) _ _ _); refine isTrue_plain ?_ (by rfl))
  | with_reducible refine Subscript_ ?_
  | with_reducible refine wpAny_Constant_int ?_
  | with_reducible refine wpAny_Constant_str ?_
  | with_reducible refine wpAny_Constant_bool ?_
  | with_reducible refine wpAny_Constant_none ?_
  | with_reducible refine wpAny_Slice ?_
  | with_reducible refine evalPart_none_step ?_
  | with_reducible refine evalPart_some_step ?_
  | with_reducible refine wpAny_UnaryOp ?_
  | with_reducible refine neg_int ?_
  | with_reducible refine wpAny_BinOp ?_
  | with_reducible refine wpAny_Tuple ?_
  | ((with_reducible show wpAny _ _ (spliced (backTo _ (starEach (_ :: _) _))) _ _ _); refine wpAny_items_cons ?_)
  | ((with_reducible show wpAny _ _ (spliced (backTo _ (starEach [] _))) _ _ _); refine wpAny_items_nil ?_)
  | with_reducible refine wpAny_truthy_bool ?_
  | with_reducible refine PySem.P.eq_str ?_
  | with_reducible refine PySem.P.ne_str ?_
  | with_reducible refine PySem.P.in_str ?_
  | ((with_reducible show wpAny _ _ (eval (Expr.Call (Expr.Name _ _) _ [] _) _) _ _ _); refine Call_ ?_)
  | ((with_reducible show wpAny _ _ (callWith _ (Value.builtin _) [] (backTo _ (starEach (_ :: _) _)) []) _ _ _); refine PyProof.Rows.callWith_builtin1 ?_)
  | ((with_reducible show wpAny _ _ (eval (Expr.Name _ _) _) _ _ _); refine nmL (by first | assumption | exact EnvOk.comp (by assumption) _ rfl _ _) (by assumption) (by rfl) (by first | assumption | rfl) ?_ (by decide))
  | ((with_reducible show wpAny _ _ (eval (Expr.Name _ _) _) _ _ _); refine nmG (by first | assumption | exact EnvOk.comp (by assumption) _ rfl _ _) (Base.keeps (by assumption) (Fr.keep (by assumption))) (by rfl) (by walk_at "gname") ?_ (by decide))
  | ((with_reducible show wpAny _ _ (eval (Expr.Name _ _) _) _ _ _); refine nmB (by first | assumption | exact EnvOk.comp (by assumption) _ rfl _ _) (Base.keeps (by assumption) (Fr.keep (by assumption))) (by rfl) (by walk_at "gnone") (by walk_at "bname") (by decide) ?_ (by decide))
  | ((with_reducible show wpAny _ _ (eval (Expr.Name _ _) _) _ _ _); refine nmC (by first | assumption | exact EnvOk.comp (by assumption) _ rfl _ _) (by rfl) (by rfl) (by assumption) ?_ (by decide))
  | ((with_reducible show wpAny _ _ (subscriptTail _ _ (Value.ref _) (Value.int _ _)) _ _ _); refine word_item (by assumption) (by assumption) (by rfl) (by rfl) (by decide) (by decide) ?_ (by rfl)))


theorem back_pick (items : Array Value) (hn : 1 ≤ items.size) : slicePick items (some (-2)) none (some (-1)) = (items.toList.take (items.size - 1)).reverse.toArray := by
  have hb : sliceBounds (some (-2)) none (some (-1)) items.size = (((items.size - 1 : Nat) : Int) - 1, -1, -1) := by
    simp only [sliceBounds, Option.getD_some]
    have h1 : ¬ ((-1 : Int) > 0) := by decide
    have h2 : (-2 : Int) < 0 := by decide
    simp only [h1, h2, if_false, if_true]
    congr 1
    omega
  unfold slicePick
  rw [hb]
  show ((sliceRange (((items.size - 1 : Nat) : Int) - 1) (-1) (-1)).filterMap (items[·]?)).toArray = _
  rw [krv_sliceRange, krv_range, List.filterMap_reverse]
  have h := pick_run items 0 (items.size - 1)
  have e : (List.range (items.size - 1)).map (0 + ·) = List.range (items.size - 1) := by
    rw [show ((0 + ·) : Nat → Nat) = id from funext fun k => Nat.zero_add k, List.map_id]
  rw [e, List.drop_zero] at h
  rw [h]

theorem rev_rel {P : Value → Nat → Prop} (ys : List Value) (x : List Nat) (hl : ys.length = x.length) (h : ∀ (i : Nat) (y : Value) (c : Nat), ys[i]? = some y → x[i]? = some c → P y c) (k i : Nat) (y : Value) (c : Nat)
    (hy : (ys.take k).reverse[i]? = some y) (hc : (x.take k).reverse[i]? = some c) : P y c := by
  have l1 := (List.getElem?_eq_some_iff.mp hy).1
  have l2 := (List.getElem?_eq_some_iff.mp hc).1
  rw [List.length_reverse] at l1 l2
  rw [List.getElem?_reverse l1] at hy
  rw [List.getElem?_reverse l2] at hc
  rw [List.length_take] at l1 l2 hy hc
  rw [hl] at hy
  rw [List.getElem?_take] at hy hc
  split at hy
  · rename_i hlt
    rw [if_pos hlt] at hc
    exact h _ _ _ hy hc
  · cases hy

theorem single_len (w : Wr) (c : Nat) : (single w c).1.length ≤ 10 := by
  unfold single
  split
  · show 2 ≤ 10
    decide
  · dsimp only
    split <;> simp

theorem fold1 (w : Wr) (x : List Nat) (hx : x ≠ []) (d : Word) : (x.map (single w)).tail.foldl joined ((x.map (single w)).headD d) = wordOf w x := by
  cases x with
  | nil => exact absurd rfl hx
  | cons c r => exact fold_left w c r

theorem fold2 (w : Wr) (x : List Nat) (c : Nat) (hx : 0 < x.length) (hc : x[x.length - 1]? = some c) : ((x.take (x.length - 1)).reverse.map (single w)).foldl (fun a b => joined b a) (single w c) = wordOf w x := by
  rw [fold_back w]
  congr 1
  obtain ⟨h1, h2⟩ := List.getElem?_eq_some_iff.mp hc
  have hd : x.drop (x.length - 1) = [c] := by rw [List.drop_eq_getElem_cons h1, h2, Nat.sub_add_cancel hx, List.drop_length]
  rw [← hd]
  exact List.take_append_drop ..

theorem mul_list2 {prog : Program} {w : World} {A : Around} {E : Value → Shared → Prop} {s : Shared} {l : Addr} {v : Value} {k : Nat} {u : Tok} {Q : Value → Shared → Prop}
    (hl : s.heap.get? l = some { cls := .type "list", dict := none, data := .seq #[v] k, slots := #[] })
    (h : Q (.ref s.heap.objs.size) { s with heap := s.heap.push { cls := .type "list", data := .seq #[v, v] } }) : wpAny (model prog w) A (binaryOp .Mult (.ref l) (.int 2 u)) Q E s :=
  wpAny_binaryOp_repeat_ref (T := "list") (U := "int") (by decide) ⟨_, hl, rfl⟩ (fun s' => typeIs_int s' 2 u) noFill_list_mul F.fills_int_mul F.slot_int_rmul repeat_list F.slot_int_index.lookup
    (call_meets F.slot_int_rmul (typeIs_int s 2 u) F.entry_int_rmul (F.args_int_rmul_2 _ _) (int___rmul___int_list 2 u l #[v] k)
      ⟨hl, rfl, ⟨_, hl, rfl⟩, call_meets F.slot_list_mul ⟨_, hl, rfl⟩ F.entry_list_mul (F.args_list_mul_2 _ _)
        (AutoListH.list___mul___list_int_3 l #[v] k 2 u (by simp [Builtin.List.listFitsIndex]) (by show ¬ 1 * 2 > (2 ^ 63 - 1) / 8; decide) (by simp [Builtin.List.listTooLong, sizeLine]))
        ⟨hl, h⟩⟩)

set_option maxHeartbeats 2000000 in
theorem told_st {prog : Program} {w : World} {A : Around} {E : Value → Shared → Prop} {s : Shared} {mg mb : Str → Option Value} {L a : Addr} {q : Str} {cd : Value} {h₀ : Heap} {m : Str → Option Value} {vt vw vs vst : Option Value} {wr : Wr} {x : Str} {D : Addr} {Q : Flow → Shared → Prop}
    (hA : AOk A 20) (B : Base w mg mb h₀) (S : LSt h₀ L s.heap m vt vw vs vst) (hx : TextOk 5 10 x)
    (hms : m (Str.ofString "singles") = some (.ref D)) (hD : SinglesAt s.heap wr x.cps.toList D)
    (hQ : ∀ T v₁ v₂ s', LSt h₀ L s'.heap (fun y => if y = Str.ofString "told" then some (.ref T) else m y) vt vw vs vst → s'.heap.PlainList T #[v₁, v₂] → WordAt s'.heap v₁ (wordOf wr x.cps.toList) → WordAt s'.heap v₂ (wordOf wr x.cps.toList) → DK s.heap s'.heap → (∀ b o, b ≠ L → s.heap.get? b = some o → s'.heap.get? b = some o) → s'.gens = s.gens → s'.os = s.os → Q .next s') :
    wpAny (model prog w) A (exec (wst 4) (lawEnv L a q cd)) Q E s := by
  have e := lawEnv_ok L a q cd
  have hx10 := hx.2.1
  have hx5 := hx.1
  have hxl : x.cps.toList.length = x.cps.size := rfl
  have hne : x.cps.toList ≠ [] := fun h => by rw [h] at hxl; simp at hxl; omega
  have F := S.F
  refine wpAny_Assign_Name ?_ rfl
  refine wpAny_List ?_
  repeat walk_at "ast"
  refine cw_fn (fn_reduce _) ?_
  repeat walk_at "ast"
  refine ⟨(B.keeps F.keep).k, ?_⟩
  obtain ⟨ys, hl, hlen, hys⟩ := id hD
  refine call_reduce1 (n := 20) (ws := x.cps.toList.map (single wr)) hA (by decide) (B.keeps F.keep) hl (by rw [List.length_map]; exact hlen) ?_ (by simpa using hne) ?_ (by rw [List.length_map]; omega) fun v₁ s₁ hv₁ hk₁ => ?_
  · intro i y v hy hv
    rw [List.getElem?_map] at hv
    cases hc : x.cps.toList[i]? with
    | none => rw [hc] at hv; cases hv
    | some c => rw [hc] at hv; cases hv; exact hys i y c hy hc
  · intro v hv
    obtain ⟨c, _, rfl⟩ := List.mem_map.mp hv
    exact single_len wr c
  rw [fold1 wr _ hne] at hv₁
  obtain ⟨h₁, k₁, rfl, hk₁⟩ := hk₁
  have S₁ := S.keeps hk₁
  have F₁ := S₁.F
  obtain ⟨ys, hl, hlen, hys⟩ := hD.dk (.of_keep hk₁)
  repeat walk_at "ast"
  refine cw_fn (fn_reduce _) ?_
  repeat walk_at "ast"
  have hSp : ∀ ob : Obj, (h₁.push ob).IsList D ys := fun ob => hl.isList.at fun o e => Heap.get?_push_of_some _ e
  refine tail_any (T := "list") (hSp _).typeIs list_getitem_lookup (wpAny_getItem_list_slice (hSp _) (Heap.IsSliceOf.new ..) (.int _ _) .none (.int _ _) (by simp) ?_ (by rw [sizeLine_eq]; omega)) rfl
  rw [back_pick ys (by omega)]
  have hup : ∀ (b : Addr) (o : Obj) (o₁ o₂ : Obj), h₁.get? b = some o → ((h₁.push o₁).push o₂).get? b = some o := fun b o o₁ o₂ e => Heap.get?_push_of_some _ (Heap.get?_push_of_some _ e)
  have hnew : ∀ o₁ : Obj, ((h₁.push o₁).push { cls := .type "list", data := .seq (ys.toList.take (ys.size - 1)).reverse.toArray }).PlainList (h₁.push o₁).objs.size (ys.toList.take (ys.size - 1)).reverse.toArray := fun o₁ => ⟨_, Heap.get?_push_size _ rfl⟩
  have S₂ := fun o₁ o₂ => S₁.keeps fun b o e => hup b o o₁ o₂ e
  have F₂ := fun o₁ o₂ => (S₂ o₁ o₂).F
  refine wpAny_items_cons ?_
  refine Subscript_ ?_
  refine nmL e (F₂ _ _) (by rfl) hms ?_ (by decide)
  repeat walk_at "ast"
  obtain ⟨yl, hyl⟩ : ∃ yl, ys[ys.size - 1]? = some yl := ⟨_, Array.getElem?_eq_getElem (by omega)⟩
  obtain ⟨cl, hcl⟩ : ∃ cl, x.cps.toList[x.cps.toList.length - 1]? = some cl := ⟨_, List.getElem?_eq_getElem (by omega)⟩
  refine tail_any (T := "list") (hl.isList.at fun o e => hup _ _ _ _ e).typeIs list_getitem_lookup (wpAny_getItem_list_neg (x := yl) (hl.isList.at fun o e => hup _ _ _ _ e) (by decide) (by omega) (by decide) ?_ ?_) rfl
  · rw [show ((-1 : Int) + (ys.size : Int)).toNat = ys.size - 1 by omega]
    exact hyl
  repeat walk_at "ast"
  refine ⟨(B.keeps (F₂ _ _).keep).k, ?_⟩
  have hcw : WordAt h₁ yl (single wr cl) := hys _ _ _ hyl (by rw [hlen]; exact hcl)
  refine call_reduce2 (n := 20) (ws := (x.cps.toList.take (x.cps.toList.length - 1)).reverse.map (single wr)) hA (by decide) (B.keeps (F₂ _ _).keep) (hnew _) ?_ ?_ (hcw.keeps fun b o e => hup b o _ _ e) ?_ (single_len wr cl) ?_ fun v₂ s₂ hv₂ hk₂ => ?_
  · rw [List.size_toArray, List.length_map, List.length_reverse, List.length_reverse, List.length_take, List.length_take]
    show min (ys.size - 1) ys.size = _
    rw [hlen]
  · intro i y v hy hv
    rw [List.getElem?_map] at hv
    rw [List.getElem?_toArray] at hy
    cases hc : (x.cps.toList.take (x.cps.toList.length - 1)).reverse[i]? with
    | none => rw [hc] at hv; cases hv
    | some c =>
      rw [hc] at hv; cases hv
      rw [hlen] at hy
      have := rev_rel (P := fun y c => WordAt h₁ y (single wr c)) ys.toList x.cps.toList hlen (fun i y c hy hc => hys i y c (by simpa using hy) hc) _ i y c hy hc
      exact this.keeps fun b o e => hup b o _ _ e
  · intro v hv
    obtain ⟨c, _, rfl⟩ := List.mem_map.mp hv
    exact single_len wr c
  · rw [List.length_map, List.length_reverse, List.length_take]; omega
  rw [fold2 wr _ cl (by omega) hcl] at hv₂
  obtain ⟨h₃, k₃, rfl, hk₃⟩ := hk₂
  have hk13 : ∀ b o, h₁.get? b = some o → h₃.get? b = some o := fun b o e => hk₃ b o (hup b o _ _ e)
  repeat walk_at "ast"
  refine ⟨by show 2 ≤ sizeLine; rw [sizeLine_eq]; decide, ?_⟩
  have hk34 : ∀ (ob : Obj) b o, h₃.get? b = some o → (h₃.push ob).get? b = some o := fun ob b o e => Heap.get?_push_of_some _ e
  have hT : (h₃.push { cls := .type "list", data := .seq [v₁, v₂].toArray }).PlainList h₃.objs.size #[v₁, v₂] := ⟨_, Heap.get?_push_size _ rfl⟩
  refine lst_local' (h₀ := h₀) e ((S₁.keeps hk13).keeps (hk34 _)) (by rfl) fun h₅ S₅ d₅ hs₅ => ?_
  refine hQ _ v₁ v₂ _ S₅ (plainList_dk hT d₅) (((hv₁.keeps hk13).keeps (hk34 _)).dk d₅) ((hv₂.keeps (hk34 _)).dk d₅) ?_ (fun b o hb e => (hs₅.2 b hb).trans (hk34 _ b o (hk13 b o (hk₁ b o e)))) rfl rfl
  exact (DK.of_keep fun b o e => hk34 _ b o (hk13 b o (hk₁ b o e))).trans d₅
end Mine

end

section
namespace Mine
open PySem PySem.W PySem.Calls PyProof.Rows
set_option maxRecDepth 100000
local macro_rules | `(tactic| walk_at "gname") => `(tactic| first
  | with_reducible exact g_law_joined _
  | with_reducible exact g_law_single _
  | with_reducible exact g_law_word _
  | with_reducible exact g_law_text _
  | with_reducible exact g_law_put_ahead _
  | with_reducible exact g_reduce _
  | with_reducible exact g_fix_eols _
  | with_reducible exact g_quote_periods _
  | with_reducible exact g_quotedata _
  | with_reducible exact g_CRLF _
  | with_reducible exact g_twin_re_1 _
  | with_reducible exact g_twin_re_2 _
  | with_reducible exact g_twin_re_3 _
  | with_reducible exact g_initial_missing _)
local macro_rules | `(tactic| walk_at "gnone") => `(tactic| first
  | with_reducible exact gn_range _
  | with_reducible exact gn_len _
  | with_reducible exact gn_ord _
  | with_reducible exact gn_chr _
  | with_reducible exact gn_bytes _
  | with_reducible exact gn_sum _
  | with_reducible exact gn_iter _
  | with_reducible exact gn_next _
  | with_reducible exact gn_enumerate _)
local macro_rules | `(tactic| walk_at "bname") => `(tactic| first
  | with_reducible exact b_range
  | with_reducible exact b_len
  | with_reducible exact b_ord
  | with_reducible exact b_chr
  | with_reducible exact b_bytes
  | with_reducible exact b_sum
  | with_reducible exact b_iter
  | with_reducible exact b_next
  | with_reducible exact b_enumerate)
local macro_rules | `(tactic| walk_at "ast") => `(tactic| first
  | with_reducible refine wpAny_execs_cons ?_
  | with_reducible refine wpAny_execs_nil ?_
  | ((with_reducible refine wpAny_Assign_Name ?_ ?p1); (case p1 => rfl))
  | with_reducible refine wpAny_If ?_
  | with_reducible refine wpAny_Return_some ?_
  | with_reducible refine isTrue_and ?_
  | with_reducible refine isTrue_and_nil ?_
  | with_reducible refine wpAny_isTrue_Compare1 ?_
  | with_reducible refine wpAny_Compare1 ?_
  | with_reducible refine wpAny_IfExp ?_
  | ((with_reducible show wpAny _ _ (PySem.isTrue (Expr.Subscript _ _ _) _ _) _ _ _); refine isTrue_plain ?_ (by rfl))
  | with_reducible refine Subscript_ ?_
  | with_reducible refine wpAny_Constant_int ?_
  | with_reducible refine wpAny_Constant_str ?_
  | with_reducible refine wpAny_Constant_bool ?_
  | with_reducible refine wpAny_Constant_none ?_
  | with_reducible refine wpAny_Slice ?_
  | with_reducible refine evalPart_none_step ?_
  | with_reducible refine evalPart_some_step ?_
  | with_reducible refine wpAny_UnaryOp ?_
  | with_reducible refine neg_int ?_
  | with_reducible refine wpAny_BinOp ?_
  | with_reducible refine wpAny_Tuple ?_
  | ((with_reducible show wpAny _ _ (spliced (backTo _ (starEach (_ :: _) _))) _ _ _); refine wpAny_items_cons ?_)
  | ((with_reducible show wpAny _ _ (spliced (backTo _ (starEach [] _))) _ _ _); refine wpAny_items_nil ?_)
  | with_reducible refine wpAny_truthy_bool ?_
  | with_reducible refine PySem.P.eq_str ?_
  | with_reducible refine PySem.P.ne_str ?_
  | with_reducible refine PySem.P.in_str ?_
  | ((with_reducible show wpAny _ _ (eval (Expr.Call (Expr.Name _ _) _ [] _) _) _ _ _); refine Call_ ?_)
  | ((with_reducible show wpAny _ _ (callWith _ (Value.builtin _) [] (backTo _ (starEach (_ :: _) _)) []) _ _ _); refine PyProof.Rows.callWith_builtin1 ?_)
  | ((with_reducible show wpAny _ _ (eval (Expr.Name _ _) _) _ _ _); refine nmL (by first | assumption | exact EnvOk.comp (by assumption) _ rfl _ _) (by assumption) (by rfl) (by first | assumption | rfl) ?_ (by decide))
  | ((with_reducible show wpAny _ _ (eval (Expr.Name _ _) _) _ _ _); refine nmG (by first | assumption | exact EnvOk.comp (by assumption) _ rfl _ _) (Base.keeps (by assumption) (Fr.keep (by assumption))) (by rfl) (by walk_at "gname") ?_ (by decide))
  | ((with_reducible show wpAny _ _ (eval (Expr.Name _ _) _) _ _ _); refine nmB (by first | assumption | exact EnvOk.comp (by assumption) _ rfl _ _) (Base.keeps (by assumption) (Fr.keep (by assumption))) (by rfl) (by walk_at "gnone") (by walk_at "bname") (by decide) ?_ (by decide))
  | ((with_reducible show wpAny _ _ (eval (Expr.Name _ _) _) _ _ _); refine nmC (by first | assumption | exact EnvOk.comp (by assumption) _ rfl _ _) (by rfl) (by rfl) (by assumption) ?_ (by decide))
  | ((with_reducible show wpAny _ _ (subscriptTail _ _ (Value.ref _) (Value.int _ _)) _ _ _); refine word_item (by assumption) (by assumption) (by rfl) (by rfl) (by decide) (by decide) ?_ (by rfl)))


set_option maxHeartbeats 2000000 in
theorem if_told {prog : Program} {w : World} {A : Around} {E : Value → Shared → Prop} {s : Shared} {mg mb : Str → Option Value} {L a : Addr} {q : Str} {cd : Value} {h₀ : Heap} {m : Str → Option Value} {vt vw vst : Option Value} {wr : Wr} {x : Str} {ts : Tok} {W T : Addr} {v₁ v₂ : Value} {Q : Flow → Shared → Prop}
    (hA : AOk A 20) (hu : A.units + 10 < cLine) (B : Base w mg mb h₀) (S : LSt h₀ L s.heap m vt vw (some (.ref W)) vst) (hx : TextOk 5 10 x) (hsz : m (Str.ofString "size") = some (.int (x.cps.size : Int) ts)) (hW : WordsAt s.heap wr x.cps.toList W x.cps.size)
    (hmt : m (Str.ofString "told") = some (.ref T)) (hT : s.heap.PlainList T #[v₁, v₂]) (hv₁ : WordAt s.heap v₁ (wordOf wr x.cps.toList)) (hv₂ : WordAt s.heap v₂ (wordOf wr x.cps.toList))
    (hQ : ∀ s', (∀ b o, s.heap.get? b = some o → s'.heap.get? b = some o) → s'.gens = s.gens → s'.os = s.os → Q .next s') :
    wpAny (model prog w) A (exec (wst 5) (lawEnv L a q cd)) Q E s := by
  have e := lawEnv_ok L a q cd
  have hx10 := hx.2.1
  have hx5 := hx.1
  have hxl : x.cps.toList.length = x.cps.size := rfl
  obtain ⟨F, c1, c2, c3, c4⟩ := id S
  obtain ⟨ys, r, es, g1, g2, g3, g4⟩ := words_row hW (i := 0) (by omega)
  obtain ⟨y, g5, g6⟩ := g4 x.cps.size (by omega) (by omega)
  have hall : (x.cps.toList.drop 0).take (x.cps.size - 0) = x.cps.toList := by rw [List.drop_zero, List.take_of_length_le (by omega)]
  rw [hall] at g6
  refine wpAny_If ?_
  repeat walk_at "ast"
  refine wpAny_List ?_
  repeat walk_at "ast"
  refine litem g1 (i := 0) (by rfl) (by omega) g2 ?_ rfl
  repeat walk_at "ast"
  refine litem g3 (i := x.cps.size) rfl (by omega) g5 ?_ rfl
  repeat walk_at "ast"
  refine ⟨by show 1 ≤ sizeLine; rw [sizeLine_eq]; decide, ?_⟩
  repeat walk_at "ast"
  refine mul_list2 (v := y) (Heap.get?_push_size _ rfl) ?_
  have hup : ∀ (o₁ o₂ : Obj) (b : Addr) (o : Obj), s.heap.get? b = some o → ((s.heap.push o₁).push o₂).get? b = some o := fun o₁ o₂ b o e => Heap.get?_push_of_some _ (Heap.get?_push_of_some _ e)
  refine ne_lists (ys := #[v₁, v₂]) (zs := #[y, y]) (ws := [wordOf wr x.cps.toList, wordOf wr x.cps.toList]) hu (hT.isList.at fun o e => hup _ _ _ _ e) ⟨_, Heap.get?_push_size _ rfl, rfl, _, rfl⟩ rfl rfl ?_ ?_ ?_
  · intro i y' v hy hv
    have hi : i = 0 ∨ i = 1 := by
      have := (List.getElem?_eq_some_iff.mp hv).1
      have : i < 2 := this
      omega
    rcases hi with rfl | rfl
    · cases hy; cases hv; exact hv₁.keeps (hup _ _)
    · cases hy; cases hv; exact hv₂.keeps (hup _ _)
  · intro i y' v hy hv
    have hi : i = 0 ∨ i = 1 := by
      have := (List.getElem?_eq_some_iff.mp hv).1
      have : i < 2 := this
      omega
    rcases hi with rfl | rfl
    · cases hy; cases hv; exact g6.keeps (hup _ _)
    · cases hy; cases hv; exact g6.keeps (hup _ _)
  · repeat walk_at "ast"
    refine ite_F rfl ?_
    repeat walk_at "ast"
    exact hQ _ (hup _ _) rfl rfl

/-- the innermost body -/
def cutBody : List Stmt := match wst 6 with | .For _ _ [.For _ _ [.For _ _ b _ _] _ _] _ _ => b | _ => []
def cutLoop : Stmt := match wst 6 with | .For _ _ [.For _ _ [b] _ _] _ _ => b | _ => .Pass ⟨0, 0, 0, 0⟩
def endLoop : Stmt := match wst 6 with | .For _ _ [b] _ _ => b | _ => .Pass ⟨0, 0, 0, 0⟩

theorem cut_eq (x : List Nat) (i c j : Nat) (h1 : i < c) (h2 : c < j) : (x.drop i).take (j - i) = (x.drop i).take (c - i) ++ (x.drop c).take (j - c) := by
  have : j - i = (c - i) + (j - c) := by omega
  rw [this, List.take_add, List.drop_drop, show i + (c - i) = c by omega]

theorem dots_len2 (b : Bool) (x : List Nat) : (dots b x).length ≤ 2 * x.length := dots_len b x
end Mine

end

section
namespace Mine
open PySem PySem.W PySem.Calls PyProof.Rows
set_option maxRecDepth 100000
local macro_rules | `(tactic| walk_at "gname") => `(tactic| first
  | with_reducible exact g_law_joined _
  | with_reducible exact g_law_single _
  | with_reducible exact g_law_word _
  | with_reducible exact g_law_text _
  | with_reducible exact g_law_put_ahead _
  | with_reducible exact g_reduce _
  | with_reducible exact g_fix_eols _
  | with_reducible exact g_quote_periods _
  | with_reducible exact g_quotedata _
  | with_reducible exact g_CRLF _
  | with_reducible exact g_twin_re_1 _
  | with_reducible exact g_twin_re_2 _
  | with_reducible exact g_twin_re_3 _
  | with_reducible exact g_initial_missing _)
local macro_rules | `(tactic| walk_at "gnone") => `(tactic| first
  | with_reducible exact gn_range _
  | with_reducible exact gn_len _
  | with_reducible exact gn_ord _
  | with_reducible exact gn_chr _
  | with_reducible exact gn_bytes _
  | with_reducible exact gn_sum _
  | with_reducible exact gn_iter _
  | with_reducible exact gn_next _
  | with_reducible exact gn_enumerate _)
local macro_rules | `(tactic| walk_at "bname") => `(tactic| first
  | with_reducible exact b_range
  | with_reducible exact b_len
  | with_reducible exact b_ord
  | with_reducible exact b_chr
  | with_reducible exact b_bytes
  | with_reducible exact b_sum
  | with_reducible exact b_iter
  | with_reducible exact b_next
  | with_reducible exact b_enumerate)
local macro_rules | `(tactic| walk_at "ast") => `(tactic| first
  | with_reducible refine wpAny_execs_cons ?_
  | with_reducible refine wpAny_execs_nil ?_
  | ((with_reducible refine wpAny_Assign_Name ?_ ?p1); (case p1 => rfl))
  | with_reducible refine wpAny_If ?_
  | with_reducible refine wpAny_Return_some ?_
  | with_reducible refine isTrue_and ?_
  | with_reducible refine isTrue_and_nil ?_
  | with_reducible refine wpAny_isTrue_Compare1 ?_
  | with_reducible refine wpAny_Compare1 ?_
  | with_reducible refine wpAny_IfExp ?_
  | ((with_reducible show wpAny _ _ (PySem.isTrue (Expr.Subscript _ _ _) _ _) _ _ _); refine isTrue_plain ?_ (by rfl))
  | with_reducible refine Subscript_ ?_
  | with_reducible refine wpAny_Constant_int ?_
  | with_reducible refine wpAny_Constant_str ?_
  | with_reducible refine wpAny_Constant_bool ?_
  | with_reducible refine wpAny_Constant_none ?_
  | with_reducible refine wpAny_Slice ?_
  | with_reducible refine evalPart_none_step ?_
  | with_reducible refine evalPart_some_step ?_
  | with_reducible refine wpAny_UnaryOp ?_
  | with_reducible refine neg_int ?_
  | with_reducible refine wpAny_BinOp ?_
  | with_reducible refine wpAny_Tuple ?_
  | ((with_reducible show wpAny _ _ (spliced (backTo _ (starEach (_ :: _) _))) _ _ _); refine wpAny_items_cons ?_)
  | ((with_reducible show wpAny _ _ (spliced (backTo _ (starEach [] _))) _ _ _); refine wpAny_items_nil ?_)
  | with_reducible refine wpAny_truthy_bool ?_
  | with_reducible refine PySem.P.eq_str ?_
  | with_reducible refine PySem.P.ne_str ?_
  | with_reducible refine PySem.P.in_str ?_
  | ((with_reducible show wpAny _ _ (eval (Expr.Call (Expr.Name _ _) _ [] _) _) _ _ _); refine Call_ ?_)
  | ((with_reducible show wpAny _ _ (callWith _ (Value.builtin _) [] (backTo _ (starEach (_ :: _) _)) []) _ _ _); refine PyProof.Rows.callWith_builtin1 ?_)
  | ((with_reducible show wpAny _ _ (eval (Expr.Name _ _) _) _ _ _); refine nmL (by first | assumption | exact EnvOk.comp (by assumption) _ rfl _ _) (by assumption) (by rfl) (by first | assumption | rfl) ?_ (by decide))
  | ((with_reducible show wpAny _ _ (eval (Expr.Name _ _) _) _ _ _); refine nmG (by first | assumption | exact EnvOk.comp (by assumption) _ rfl _ _) (Base.keeps (by assumption) (Fr.keep (by assumption))) (by rfl) (by walk_at "gname") ?_ (by decide))
  | ((with_reducible show wpAny _ _ (eval (Expr.Name _ _) _) _ _ _); refine nmB (by first | assumption | exact EnvOk.comp (by assumption) _ rfl _ _) (Base.keeps (by assumption) (Fr.keep (by assumption))) (by rfl) (by walk_at "gnone") (by walk_at "bname") (by decide) ?_ (by decide))
  | ((with_reducible show wpAny _ _ (eval (Expr.Name _ _) _) _ _ _); refine nmC (by first | assumption | exact EnvOk.comp (by assumption) _ rfl _ _) (by rfl) (by rfl) (by assumption) ?_ (by decide))
  | ((with_reducible show wpAny _ _ (subscriptTail _ _ (Value.ref _) (Value.int _ _)) _ _ _); refine word_item (by assumption) (by assumption) (by rfl) (by rfl) (by decide) (by decide) ?_ (by rfl)))


theorem word_len (w : Wr) (x : List Nat) : (wordOf w x).1.length ≤ 4 * x.length := by
  have h1 := fixE_len x
  have h2 := dots_len true x
  have h3 := dots_len true (fixE x)
  cases w
  · show (fixE x).length ≤ _; omega
  · show (dots true x).length ≤ _; omega
  · show (dots true (fixE x)).length ≤ _; omega

set_option maxHeartbeats 2000000 in
theorem cut_body {prog : Program} {w : World} {A : Around} {E : Value → Shared → Prop} {s : Shared} {mg mb : Str → Option Value} {L a : Addr} {q : Str} {cd : Value} {h₀ : Heap} {m : Str → Option Value} {vt vw : Option Value} {wr : Wr} {x : Str} {W : Addr} {i j c : Nat} {ki kj kc : Int} {ti tj tc : Tok} {Q : Flow → Shared → Prop}
    (hA : AOk A 20) (hu : A.units + 10 < cLine) (B : Base w mg mb h₀) (S : LSt h₀ L s.heap m vt vw (some (.ref W)) (some (.int ki ti))) (hx : TextOk 5 10 x) (hW : WordsAt s.heap wr x.cps.toList W x.cps.size)
    (hmj : m (Str.ofString "end") = some (.int kj tj)) (hmc : m (Str.ofString "cut") = some (.int kc tc)) (hki : ki = (i : Int)) (hkj : kj = (j : Int)) (hkc : kc = (c : Int)) (h1 : i < c) (h2 : c < j) (h3 : j ≤ x.cps.size)
    (hQ : ∀ s', (∀ b o, s.heap.get? b = some o → s'.heap.get? b = some o) → s'.gens = s.gens → s'.os = s.os → Q .next s') :
    wpAny (model prog w) A (execs cutBody (lawEnv L a q cd)) Q E s := by
  have e := lawEnv_ok L a q cd
  have hx10 := hx.2.1
  have hxl : x.cps.toList.length = x.cps.size := rfl
  obtain ⟨F, c1, c2, c3, c4⟩ := id S
  obtain ⟨ys, r, es, g1, g2, g3, g4⟩ := words_row hW (i := i) (by omega)
  obtain ⟨ys', r', es', g1', g2', g3', g4'⟩ := words_row hW (i := c) (by omega)
  obtain ⟨y1, p1, q1⟩ := g4 c h1 (by omega)
  obtain ⟨y2, p2, q2⟩ := g4' j h2 (by omega)
  refine wpAny_execs_cons ?_
  refine wpAny_If ?_
  repeat walk_at "ast"
  refine cw_fn (fn_joined _) ?_
  repeat walk_at "ast"
  refine litem g1 hki (by omega) g2 ?_ rfl
  repeat walk_at "ast"
  refine litem g3 hkc (by omega) p1 ?_ rfl
  repeat walk_at "ast"
  refine litem g1' hkc (by omega) g2' ?_ rfl
  repeat walk_at "ast"
  refine litem g3' hkj (by omega) p2 ?_ rfl
  repeat walk_at "ast"
  refine ⟨(B.keeps F.keep).k, ?_⟩
  have l1 := word_len wr ((x.cps.toList.drop i).take (c - i))
  have l2 := word_len wr ((x.cps.toList.drop c).take (j - c))
  rw [List.length_take] at l1 l2
  refine call_joined (n := 20) hA (by decide) (B.keeps F.keep) q1 q2 (by omega) (by omega) fun v s₁ hv hk₁ => ?_
  have n1 : (x.cps.toList.drop i).take (c - i) ≠ [] := fun h => by
    have := congrArg List.length h
    rw [List.length_take, List.length_drop] at this
    simp only [List.length_nil] at this
    omega
  have n2 : (x.cps.toList.drop c).take (j - c) ≠ [] := fun h => by
    have := congrArg List.length h
    rw [List.length_take, List.length_drop] at this
    simp only [List.length_nil] at this
    omega
  rw [← word_joined wr _ _ n1 n2, ← cut_eq _ i c j h1 h2] at hv
  obtain ⟨h₁, k₁, rfl, hk₁⟩ := hk₁
  obtain ⟨F₁, d1, d2, d3, d4⟩ := S.keeps hk₁
  obtain ⟨zs, rz, ez, z1, z2, z3, z4⟩ := words_row (hW.dk (.of_keep hk₁)) (i := i) (by omega)
  obtain ⟨y3, p3, q3⟩ := z4 j (by omega) (by omega)
  repeat walk_at "ast"
  refine litem z1 hki (by omega) z2 ?_ rfl
  repeat walk_at "ast"
  refine litem z3 hkj (by omega) p3 ?_ rfl
  refine ne_words (by omega) hv q3 ?_
  repeat walk_at "ast"
  refine ite_F rfl ?_
  repeat walk_at "ast"
  exact hQ _ hk₁ rfl rfl

/-- a for over a range, with a local for a target -/
theorem loop_local {prog : Program} {w : World} {A : Around} {s : Shared} {env : Env} {L : Addr} {sc : Scope} {h₀ h : Heap} {m : Str → Option Value} {xn : Str} {px : Pos} {body : List Stmt} {I : Addr} {a : Int} {n : Nat} {R : Result → Shared → Prop}
    (hh : A.handled = none) (e : EnvOk env L sc) (hxl : sc.names.lookup xn = some .local) (F : Fr h₀ L h m) (hI : h.objs.size ≤ I) (hk₁ : ∀ b o, h.get? b = some o → s.heap.get? b = some o)
    (hit : IsRangeIter s.heap I (a + (0 : Nat) * 1) ((n : Int) - (0 : Nat)) 1) (P : (Str → Option Value) → Prop) (hP : P m)
    (step : ∀ i t m' s' E', i < n → P m' → s'.heap.Ns L (fun y => if y = xn then some (.int (a + (i : Nat)) t) else m' y) → (∀ b o, b ≠ L → h.get? b = some o → s'.heap.get? b = some o) →
      wpAny (model prog w) A (execs body env) (fun f s₃ => f = .next ∧ ∃ m₃, P m₃ ∧ s₃.heap.Ns L m₃ ∧ (∀ b o, b ≠ L → s'.heap.get? b = some o → s₃.heap.get? b = some o) ∧ s₃.gens = s'.gens ∧ s₃.os = s'.os) E' s')
    (done : ∀ s' m', P m' → s'.heap.Ns L m' → (∀ b o, b ≠ L → h.get? b = some o → s'.heap.get? b = some o) → s'.gens = s.gens → s'.os = s.os → R (.ok .next) s') :
    codeAny (model prog w) A (.forLoop (.Name xn px) (.ref I) body [] env) R s := by
  have hLI : L ≠ I := Nat.ne_of_lt (Nat.lt_of_lt_of_le F.ns.lt hI)
  have hbI : ∀ b o, h.get? b = some o → b ≠ I := fun b o e => Nat.ne_of_lt (Nat.lt_of_lt_of_le (Heap.lt_size e) hI)
  refine for_walk (PyProof.Rows.LCg.range_walks hh a n)
    (fun i s' => ∃ m', P m' ∧ s'.heap.Ns L m' ∧ IsRangeIter s'.heap I (a + (i : Nat) * 1) ((n : Int) - (i : Nat)) 1 ∧ (∀ b o, b ≠ L → h.get? b = some o → s'.heap.get? b = some o) ∧ s'.gens = s.gens ∧ s'.os = s.os)
    (fun i s' hi => hi.choose_spec.2.2.1) ?_ ?_ ⟨m, hP, F.ns.at' fun o e => hk₁ _ o e, hit, fun b o _ e => hk₁ b o e, rfl, rfl⟩
  · rintro i s' v h' tk E' hi ⟨m', hP', hn', hit', hk', hg, ho⟩ ⟨tv, rfl⟩ hst' hkI
    have hn₂ : h'.Ns L m' := hn'.at' fun o e => hkI _ o hLI e
    have hk₂ : ∀ b o, b ≠ L → h.get? b = some o → h'.get? b = some o := fun b o hb e => hkI b o (hbI b o e) (hk' b o hb e)
    have F₂ : Fr h₀ L h' m' := ⟨hn₂, fun b o e => hk₂ b o (Nat.ne_of_lt (Nat.lt_of_lt_of_le (Heap.lt_size e) F.above)) (F.keep b o e), F.above⟩
    refine stL (s := { s' with heap := h', toks := tk }) e F₂ hxl fun h₃ F₃ hs₃ => ?_
    refine wpAny_mono (step i tv m' _ E' hi hP' F₃.ns fun b o hb e => (hs₃.2 b hb).trans (hk₂ b o hb e)) ?_ fun _ _ x => x
    rintro f s₃ ⟨rfl, m₃, hP₃, hn₃, hk₃, hg₃, ho₃⟩
    refine ⟨m₃, hP₃, hn₃, ?_, fun b o hb e => hk₃ b o hb ((hs₃.2 b hb).trans (hk₂ b o hb e)), hg₃.trans hg, ho₃.trans ho⟩
    exact hk₃ _ _ (Ne.symm hLI) ((hs₃.2 _ (Ne.symm hLI)).trans hst')
  · rintro s' h' tk ⟨m', hP', hn', hit', hk', hg, ho⟩ hkI
    exact done _ m' hP' (hn'.at' fun o e => hkI _ o hLI e) (fun b o hb e => hkI b o (hbI b o e) (hk' b o hb e)) hg ho
end Mine

end

section
namespace Mine
open PySem PySem.W PySem.Calls PyProof.Rows
set_option maxRecDepth 100000
local macro_rules | `(tactic| walk_at "gname") => `(tactic| first
  | with_reducible exact g_law_joined _
  | with_reducible exact g_law_single _
  | with_reducible exact g_law_word _
  | with_reducible exact g_law_text _
  | with_reducible exact g_law_put_ahead _
  | with_reducible exact g_reduce _
  | with_reducible exact g_fix_eols _
  | with_reducible exact g_quote_periods _
  | with_reducible exact g_quotedata _
  | with_reducible exact g_CRLF _
  | with_reducible exact g_twin_re_1 _
  | with_reducible exact g_twin_re_2 _
  | with_reducible exact g_twin_re_3 _
  | with_reducible exact g_initial_missing _)
local macro_rules | `(tactic| walk_at "gnone") => `(tactic| first
  | with_reducible exact gn_range _
  | with_reducible exact gn_len _
  | with_reducible exact gn_ord _
  | with_reducible exact gn_chr _
  | with_reducible exact gn_bytes _
  | with_reducible exact gn_sum _
  | with_reducible exact gn_iter _
  | with_reducible exact gn_next _
  | with_reducible exact gn_enumerate _)
local macro_rules | `(tactic| walk_at "bname") => `(tactic| first
  | with_reducible exact b_range
  | with_reducible exact b_len
  | with_reducible exact b_ord
  | with_reducible exact b_chr
  | with_reducible exact b_bytes
  | with_reducible exact b_sum
  | with_reducible exact b_iter
  | with_reducible exact b_next
  | with_reducible exact b_enumerate)
local macro_rules | `(tactic| walk_at "ast") => `(tactic| first
  | with_reducible refine wpAny_execs_cons ?_
  | with_reducible refine wpAny_execs_nil ?_
  | ((with_reducible refine wpAny_Assign_Name ?_ ?p1); (case p1 => rfl))
  | with_reducible refine wpAny_If ?_
  | with_reducible refine wpAny_Return_some ?_
  | with_reducible refine isTrue_and ?_
  | with_reducible refine isTrue_and_nil ?_
  | with_reducible refine wpAny_isTrue_Compare1 ?_
  | with_reducible refine wpAny_Compare1 ?_
  | with_reducible refine wpAny_IfExp ?_
  | ((with_reducible show wpAny _ _ (PySem.isTrue (Expr.Subscript _ _ _) _ _) _ _ _); refine isTrue_plain ?_ (by rfl))
  | with_reducible refine Subscript_ ?_
  | with_reducible refine wpAny_Constant_int ?_
  | with_reducible refine wpAny_Constant_str ?_
  | with_reducible refine wpAny_Constant_bool ?_
  | with_reducible refine wpAny_Constant_none ?_
  | with_reducible refine wpAny_Slice ?_
  | with_reducible refine evalPart_none_step ?_
  | with_reducible refine evalPart_some_step ?_
  | with_reducible refine wpAny_UnaryOp ?_
  | with_reducible refine neg_int ?_
  | with_reducible refine wpAny_BinOp ?_
  | with_reducible refine wpAny_Tuple ?_
  | ((with_reducible show wpAny _ _ (spliced (backTo _ (starEach (_ :: _) _))) _ _ _); refine wpAny_items_cons ?_)
  | ((with_reducible show wpAny _ _ (spliced (backTo _ (starEach [] _))) _ _ _); refine wpAny_items_nil ?_)
  | with_reducible refine wpAny_truthy_bool ?_
  | with_reducible refine PySem.P.eq_str ?_
  | with_reducible refine PySem.P.ne_str ?_
  | with_reducible refine PySem.P.in_str ?_
  | ((with_reducible show wpAny _ _ (eval (Expr.Call (Expr.Name _ _) _ [] _) _) _ _ _); refine Call_ ?_)
  | ((with_reducible show wpAny _ _ (callWith _ (Value.builtin _) [] (backTo _ (starEach (_ :: _) _)) []) _ _ _); refine PyProof.Rows.callWith_builtin1 ?_)
  | ((with_reducible show wpAny _ _ (eval (Expr.Name _ _) _) _ _ _); refine nmL (by first | assumption | exact EnvOk.comp (by assumption) _ rfl _ _) (by assumption) (by rfl) (by first | assumption | rfl) ?_ (by decide))
  | ((with_reducible show wpAny _ _ (eval (Expr.Name _ _) _) _ _ _); refine nmG (by first | assumption | exact EnvOk.comp (by assumption) _ rfl _ _) (Base.keeps (by assumption) (Fr.keep (by assumption))) (by rfl) (by walk_at "gname") ?_ (by decide))
  | ((with_reducible show wpAny _ _ (eval (Expr.Name _ _) _) _ _ _); refine nmB (by first | assumption | exact EnvOk.comp (by assumption) _ rfl _ _) (Base.keeps (by assumption) (Fr.keep (by assumption))) (by rfl) (by walk_at "gnone") (by walk_at "bname") (by decide) ?_ (by decide))
  | ((with_reducible show wpAny _ _ (eval (Expr.Name _ _) _) _ _ _); refine nmC (by first | assumption | exact EnvOk.comp (by assumption) _ rfl _ _) (by rfl) (by rfl) (by assumption) ?_ (by decide))
  | ((with_reducible show wpAny _ _ (subscriptTail _ _ (Value.ref _) (Value.int _ _)) _ _ _); refine word_item (by assumption) (by assumption) (by rfl) (by rfl) (by decide) (by decide) ?_ (by rfl)))


theorem iter_range2' {prog : Program} {w : World} {A : Around} {E : Value → Shared → Prop} {s : Shared} {a n : Nat} {ka b : Int} {t u : Tok} {K : Value → Shared → Prop} (hka : ka = (a : Int)) (hb : b = ((a + n : Nat) : Int)) (hn : a + n ≤ 10000)
    (h : ∀ h' tk, (∀ b o, s.heap.get? b = some o → h'.get? b = some o) → IsRangeIter h' (s.heap.objs.size + 1) ((a : Int) + (0 : Nat) * 1) ((n : Int) - (0 : Nat)) 1 → h'.objs.size = s.heap.objs.size + 2 → K (.ref (s.heap.objs.size + 1)) { s with heap := h', toks := tk }) :
    wpAny (model prog w) A (call (.type "range") [.int ka t, .int b u]) (fun xv s₁ => wpAny (model prog w) A (pyIter xv) K E s₁) E s := by
  subst hka; exact iter_range2 hb hn h

section
variable {prog : Program} {w : World} {A : Around} {E : Value → Shared → Prop} {s : Shared} {mg mb : Str → Option Value} {L a : Addr} {q : Str} {cd : Value} {h₀ : Heap} {m : Str → Option Value} {vt vw vst : Option Value} {wr : Wr} {x : Str} {W : Addr} {i j : Nat} {ki kj : Int} {ti tj ts : Tok} {Q : Flow → Shared → Prop}

set_option maxHeartbeats 2000000 in
theorem cut_loop
    (hA : AOk A 20) (hu : A.units + 10 < cLine) (B : Base w mg mb h₀) (S : LSt h₀ L s.heap m vt vw (some (.ref W)) (some (.int ki ti))) (hx : TextOk 5 10 x) (hW : WordsAt s.heap wr x.cps.toList W x.cps.size) (hsz : m (Str.ofString "size") = some (.int (x.cps.size : Int) ts))
    (hmj : m (Str.ofString "end") = some (.int kj tj)) (hki : ki = (i : Int)) (hkj : kj = (j : Int)) (h1 : i + 1 ≤ j) (h3 : j ≤ x.cps.size)
    (hQ : ∀ s' m', m' (Str.ofString "size") = some (.int (x.cps.size : Int) ts) → s'.heap.Ns L m' → (∀ b o, b ≠ L → s.heap.get? b = some o → s'.heap.get? b = some o) → s'.gens = s.gens → s'.os = s.os → Q .next s') :
    wpAny (model prog w) A (exec cutLoop (lawEnv L a q cd)) Q E s := by
  have e := lawEnv_ok L a q cd
  have hx10 := hx.2.1
  obtain ⟨F, c1, c2, c3, c4⟩ := id S
  refine wpAny_For ?_ (fun _ => rfl)
  repeat walk_at "ast"
  refine PyProof.Rows.callWith_type1 ?_
  repeat walk_at "ast"
  refine PyProof.Rows.add_int ?_
  repeat walk_at "ast"
  refine iter_range2' (a := i + 1) (n := j - (i + 1)) (by omega) (by omega) (by omega) fun h₁ tk₁ hk₁ hit hz₁ => ?_
  have hk₁ : ∀ b o, s.heap.get? b = some o → h₁.get? b = some o := hk₁
  refine loop_local hA.handled e (by rfl) F (Nat.le_succ _) hk₁ hit (fun m' => m' (Str.ofString "size") = some (.int (x.cps.size : Int) ts) ∧ m' (Str.ofString "end") = some (.int kj tj)) ⟨hsz, hmj⟩ ?_ ?_
  · rintro c t m' s' E' hc ⟨hs', he'⟩ hn' hk'
    refine cut_body (i := i) (j := j) (c := i + 1 + c) hA hu B (S.keepL hn' hk') hx (hW.dk (.keepL F.ns hk')) he' rfl hki hkj (by omega) (by omega) (by omega) h3 fun s₃ hk₃ hg₃ ho₃ => ?_
    refine ⟨rfl, _, ?_, hn'.at' fun o e => hk₃ _ o e, fun b o _ e => hk₃ b o e, hg₃, ho₃⟩
    exact ⟨hs', he'⟩
  · rintro s' m' ⟨hs', he'⟩ hn' hk' hg ho
    exact hQ s' m' hs' hn' hk' hg ho

set_option maxHeartbeats 2000000 in
theorem end_loop
    (hA : AOk A 20) (hu : A.units + 10 < cLine) (B : Base w mg mb h₀) (S : LSt h₀ L s.heap m vt vw (some (.ref W)) (some (.int ki ti))) (hx : TextOk 5 10 x) (hW : WordsAt s.heap wr x.cps.toList W x.cps.size) (hsz : m (Str.ofString "size") = some (.int (x.cps.size : Int) ts))
    (hki : ki = (i : Int)) (h3 : i + 1 ≤ x.cps.size)
    (hQ : ∀ s' m', m' (Str.ofString "size") = some (.int (x.cps.size : Int) ts) → s'.heap.Ns L m' → (∀ b o, b ≠ L → s.heap.get? b = some o → s'.heap.get? b = some o) → s'.gens = s.gens → s'.os = s.os → Q .next s') :
    wpAny (model prog w) A (exec endLoop (lawEnv L a q cd)) Q E s := by
  have e := lawEnv_ok L a q cd
  have hx10 := hx.2.1
  obtain ⟨F, c1, c2, c3, c4⟩ := id S
  refine wpAny_For ?_ (fun _ => rfl)
  repeat walk_at "ast"
  refine PyProof.Rows.callWith_type1 ?_
  repeat walk_at "ast"
  refine PyProof.Rows.add_int ?_
  repeat walk_at "ast"
  refine PyProof.Rows.add_int ?_
  repeat walk_at "ast"
  refine iter_range2' (a := i + 2) (n := x.cps.size + 1 - (i + 2)) (by omega) (by omega) (by omega) fun h₁ tk₁ hk₁ hit hz₁ => ?_
  have hk₁ : ∀ b o, s.heap.get? b = some o → h₁.get? b = some o := hk₁
  refine loop_local hA.handled e (by rfl) F (Nat.le_succ _) hk₁ hit (fun m' => m' (Str.ofString "size") = some (.int (x.cps.size : Int) ts)) hsz ?_ ?_
  · rintro c t m' s' E' hc hs' hn' hk'
    refine wpAny_execs_cons ?_
    refine cut_loop (i := i) (j := i + 2 + c) hA hu B (S.keepL hn' hk') hx (hW.dk (.keepL F.ns hk')) hs' rfl hki (by omega) (by omega) (by omega) fun s₃ m₃ hs₃ hn₃ hk₃ hg₃ ho₃ => ?_
    refine wpAny_execs_nil ?_
    exact ⟨rfl, m₃, hs₃, hn₃, hk₃, hg₃, ho₃⟩
  · rintro s' m' hs' hn' hk' hg ho
    exact hQ s' m' hs' hn' hk' hg ho

set_option maxHeartbeats 2000000 in
theorem start_loop
    (hA : AOk A 20) (hu : A.units + 10 < cLine) (B : Base w mg mb h₀) (S : LSt h₀ L s.heap m vt vw (some (.ref W)) vst) (hx : TextOk 5 10 x) (hW : WordsAt s.heap wr x.cps.toList W x.cps.size) (hsz : m (Str.ofString "size") = some (.int (x.cps.size : Int) ts))
    (hQ : ∀ s' m' vst', m' (Str.ofString "size") = some (.int (x.cps.size : Int) ts) → LSt h₀ L s'.heap m' vt vw (some (.ref W)) vst' → Kp L W s.heap s'.heap → s'.gens = s.gens → s'.os = s.os → Q .next s') :
    wpAny (model prog w) A (exec (wst 6) (lawEnv L a q cd)) Q E s := by
  have e := lawEnv_ok L a q cd
  have hx10 := hx.2.1
  have hx5 := hx.1
  have F := S.F
  refine wpAny_For ?_ (fun _ => rfl)
  repeat walk_at "ast"
  refine PyProof.Rows.callWith_type1 ?_
  repeat walk_at "ast"
  refine sub_int ?_
  repeat walk_at "ast"
  refine iter_range1' (n := x.cps.size - 1) (by omega) (by omega) fun h₁ tk₁ hk₁ hit hz₁ => ?_
  have hk₁ : ∀ b o, s.heap.get? b = some o → h₁.get? b = some o := hk₁
  have hI4 : L + 4 < s.heap.objs.size + 1 := Nat.lt_succ_of_lt S.lt
  have hLI : L ≠ s.heap.objs.size + 1 := Nat.ne_of_lt (Nat.lt_of_le_of_lt (Nat.le_add_right _ _) hI4)
  refine for_walk (PyProof.Rows.LCg.range_walks hA.handled 0 (x.cps.size - 1))
    (fun i s' => ∃ m' vst', m' (Str.ofString "size") = some (.int (x.cps.size : Int) ts) ∧ LSt h₀ L s'.heap m' vt vw (some (.ref W)) vst' ∧ IsRangeIter s'.heap (s.heap.objs.size + 1) ((0 : Int) + (i : Nat) * 1) (((x.cps.size - 1 : Nat) : Int) - (i : Nat)) 1 ∧ WordsAt s'.heap wr x.cps.toList W x.cps.size ∧ Kp L W s.heap s'.heap ∧ s'.gens = s.gens ∧ s'.os = s.os)
    (fun i s' hi => hi.choose_spec.choose_spec.2.2.1) ?_ ?_ ⟨m, vst, hsz, S.keeps hk₁, hit, hW.dk (.of_keep hk₁), .of_keep hk₁, rfl, rfl⟩
  · rintro i s' v h' tk E' hi ⟨m', vst', hs', S', hit', hW', hkp, hg, ho⟩ ⟨tv, rfl⟩ hst' hk'
    have S₂ := S'.keepI hI4 hk'
    have d₂ : DK s'.heap h' := DK.iter hit' hk'
    refine lst_start' (h₀ := h₀) e S₂ (by rfl) (by rfl) fun h₃ S₃ d₃ hs₃ => ?_
    have hst₃ : IsRangeIter h₃ (s.heap.objs.size + 1) ((0 : Int) + ((i + 1 : Nat) : Int) * 1) (((x.cps.size - 1 : Nat) : Int) - ((i + 1 : Nat) : Int)) 1 := (hs₃.2 _ (Nat.ne_of_gt hI4)).trans hst'
    have hW₃ := (hW'.dk d₂).dk d₃
    refine wpAny_execs_cons ?_
    refine end_loop (i := i) hA hu B S₃ hx hW₃ hs' (by omega) (by omega) fun s₄ m₄ hs₄ hn₄ hk₄ hg₄ ho₄ => ?_
    refine wpAny_execs_nil ?_
    refine ⟨m₄, _, hs₄, S₃.keepL hn₄ hk₄, hk₄ _ _ (Ne.symm hLI) hst₃, hW₃.dk (.keepL S₃.F.ns hk₄), ?_, hg₄.trans hg, ho₄.trans ho⟩
    refine Kp.trans (h' := h') ?_ (Kp.trans (.same (by decide) hs₃) (.ofL hk₄))
    exact fun b o h1 h2 e => hk' b o (Nat.ne_of_lt (Nat.lt_succ_of_lt (Heap.lt_size e))) (hkp b o h1 h2 e)
  · rintro s' h' tk ⟨m', vst', hs', S', hit', hW', hkp, hg, ho⟩ hk'
    exact hQ _ m' vst' hs' (S'.keepI hI4 hk') (fun b o h1 h2 e => hk' b o (Nat.ne_of_lt (Nat.lt_succ_of_lt (Heap.lt_size e))) (hkp b o h1 h2 e)) hg ho
end
end Mine

end

section
namespace Mine
open PySem PySem.W PySem.Calls PyProof.Rows
set_option maxRecDepth 100000
local macro_rules | `(tactic| walk_at "gname") => `(tactic| first
  | with_reducible exact g_law_joined _
  | with_reducible exact g_law_single _
  | with_reducible exact g_law_word _
  | with_reducible exact g_law_text _
  | with_reducible exact g_law_put_ahead _
  | with_reducible exact g_reduce _
  | with_reducible exact g_fix_eols _
  | with_reducible exact g_quote_periods _
  | with_reducible exact g_quotedata _
  | with_reducible exact g_CRLF _
  | with_reducible exact g_twin_re_1 _
  | with_reducible exact g_twin_re_2 _
  | with_reducible exact g_twin_re_3 _
  | with_reducible exact g_initial_missing _)
local macro_rules | `(tactic| walk_at "gnone") => `(tactic| first
  | with_reducible exact gn_range _
  | with_reducible exact gn_len _
  | with_reducible exact gn_ord _
  | with_reducible exact gn_chr _
  | with_reducible exact gn_bytes _
  | with_reducible exact gn_sum _
  | with_reducible exact gn_iter _
  | with_reducible exact gn_next _
  | with_reducible exact gn_enumerate _)
local macro_rules | `(tactic| walk_at "bname") => `(tactic| first
  | with_reducible exact b_range
  | with_reducible exact b_len
  | with_reducible exact b_ord
  | with_reducible exact b_chr
  | with_reducible exact b_bytes
  | with_reducible exact b_sum
  | with_reducible exact b_iter
  | with_reducible exact b_next
  | with_reducible exact b_enumerate)
local macro_rules | `(tactic| walk_at "ast") => `(tactic| first
  | with_reducible refine wpAny_execs_cons ?_
  | with_reducible refine wpAny_execs_nil ?_
  | ((with_reducible refine wpAny_Assign_Name ?_ ?p1); (case p1 => rfl))
  | with_reducible refine wpAny_If ?_
  | with_reducible refine wpAny_Return_some ?_
  | with_reducible refine isTrue_and ?_
  | with_reducible refine isTrue_and_nil ?_
  | with_reducible refine wpAny_isTrue_Compare1 ?_
  | with_reducible refine wpAny_Compare1 ?_
  | with_reducible refine wpAny_IfExp ?_
  | ((with_reducible show wpAny _ _ (PySem.isTrue (Expr.Subscript _ _ _) _ _) _ _ _); refine isTrue_plain ?_ (by rfl))
  | with_reducible refine Subscript_ ?_
  | with_reducible refine wpAny_Constant_int ?_
  | with_reducible refine wpAny_Constant_str ?_
  | with_reducible refine wpAny_Constant_bool ?_
  | with_reducible refine wpAny_Constant_none ?_
  | with_reducible refine wpAny_Slice ?_
  | with_reducible refine evalPart_none_step ?_
  | with_reducible refine evalPart_some_step ?_
  | with_reducible refine wpAny_UnaryOp ?_
  | with_reducible refine neg_int ?_
  | with_reducible refine wpAny_BinOp ?_
  | with_reducible refine wpAny_Tuple ?_
  | ((with_reducible show wpAny _ _ (spliced (backTo _ (starEach (_ :: _) _))) _ _ _); refine wpAny_items_cons ?_)
  | ((with_reducible show wpAny _ _ (spliced (backTo _ (starEach [] _))) _ _ _); refine wpAny_items_nil ?_)
  | with_reducible refine wpAny_truthy_bool ?_
  | with_reducible refine PySem.P.eq_str ?_
  | with_reducible refine PySem.P.ne_str ?_
  | with_reducible refine PySem.P.in_str ?_
  | ((with_reducible show wpAny _ _ (eval (Expr.Call (Expr.Name _ _) _ [] _) _) _ _ _); refine Call_ ?_)
  | ((with_reducible show wpAny _ _ (callWith _ (Value.builtin _) [] (backTo _ (starEach (_ :: _) _)) []) _ _ _); refine PyProof.Rows.callWith_builtin1 ?_)
  | ((with_reducible show wpAny _ _ (eval (Expr.Name _ _) _) _ _ _); refine nmL (by first | assumption | exact EnvOk.comp (by assumption) _ rfl _ _) (by assumption) (by rfl) (by first | assumption | rfl) ?_ (by decide))
  | ((with_reducible show wpAny _ _ (eval (Expr.Name _ _) _) _ _ _); refine nmG (by first | assumption | exact EnvOk.comp (by assumption) _ rfl _ _) (Base.keeps (by assumption) (Fr.keep (by assumption))) (by rfl) (by walk_at "gname") ?_ (by decide))
  | ((with_reducible show wpAny _ _ (eval (Expr.Name _ _) _) _ _ _); refine nmB (by first | assumption | exact EnvOk.comp (by assumption) _ rfl _ _) (Base.keeps (by assumption) (Fr.keep (by assumption))) (by rfl) (by walk_at "gnone") (by walk_at "bname") (by decide) ?_ (by decide))
  | ((with_reducible show wpAny _ _ (eval (Expr.Name _ _) _) _ _ _); refine nmC (by first | assumption | exact EnvOk.comp (by assumption) _ rfl _ _) (by rfl) (by rfl) (by assumption) ?_ (by decide))
  | ((with_reducible show wpAny _ _ (subscriptTail _ _ (Value.ref _) (Value.int _ _)) _ _ _); refine word_item (by assumption) (by assumption) (by rfl) (by rfl) (by decide) (by decide) ?_ (by rfl)))


section
variable {prog : Program} {w : World} {A : Around} {E : Value → Shared → Prop} {s : Shared} {mg mb : Str → Option Value} {L a : Addr} {q : Str} {cd : Value} {h₀ : Heap} {m : Str → Option Value} {vs vst : Option Value} {wr : Wr} {x : Str} {tx tw ts : Tok} {Q : Flow → Shared → Prop}

set_option maxHeartbeats 2000000 in
theorem writer_body
    (hA : AOk A 20) (hu : A.units + 10 < cLine) (B : Base w mg mb h₀) (S : LSt h₀ L s.heap m (some (.str x tx)) (some (.str (wstr wr) tw)) vs vst) (hx : TextOk 5 10 x) (hsz : m (Str.ofString "size") = some (.int (x.cps.size : Int) ts))
    (hQ : ∀ s' m' vs' vst', m' (Str.ofString "size") = some (.int (x.cps.size : Int) ts) → LSt h₀ L s'.heap m' (some (.str x tx)) (some (.str (wstr wr) tw)) vs' vst' → (∀ b o, ¬ (L ≤ b ∧ b ≤ L + 4) → s.heap.get? b = some o → s'.heap.get? b = some o) → s'.gens = s.gens → s'.os = s.os → Q .next s') :
    wpAny (model prog w) A (execs wbody (lawEnv L a q cd)) Q E s := by
  have e := lawEnv_ok L a q cd
  have hup : ∀ (ob : Obj) (b : Addr) (o : Obj), s.heap.get? b = some o → (s.heap.push ob).get? b = some o := fun ob b o e => Heap.get?_push_of_some _ e
  have hW0 : (s.heap.push { cls := .type "list", data := .seq ([] : List Value).toArray }).PlainList s.heap.objs.size #[] := ⟨_, Heap.get?_push_size _ rfl⟩
  refine wpAny_execs_cons ?_
  refine wpAny_Assign_Name ?_ rfl
  refine wpAny_List ?_
  repeat walk_at "ast"
  refine ⟨by show 0 ≤ sizeLine; exact Nat.zero_le _, ?_⟩
  refine lst_words' (h₀ := h₀) e (S.keeps (hup _)) (by rfl) (by rfl) fun h₁ S₁ d₁ hs₁ => ?_
  have hW₁ := plainList_dk hW0 d₁
  have k₁ : Kp L s.heap.objs.size s.heap h₁ := (Kp.of_keep (hup _)).trans (.same (by decide) hs₁)
  refine wpAny_execs_cons ?_
  refine build_loop hA B S₁ hx hsz hW₁ S.lt fun s₂ vst₂ S₂ hW₂ k₂ hg₂ ho₂ => ?_
  have k₂ : Kp L s.heap.objs.size h₁ s₂.heap := k₂
  refine wpAny_execs_cons ?_
  refine singles_st hA B S₂ hx fun D s₃ S₃ hD₃ d₃ k₃ hg₃ ho₃ => ?_
  refine wpAny_execs_cons ?_
  refine if_singles hA hu B S₃ hx hsz (hW₂.dk d₃) rfl hD₃ fun s₄ k₄ hg₄ ho₄ => ?_
  have d₄ : DK s₂.heap s₄.heap := d₃.trans (.of_keep k₄)
  have S₄ := S₃.keeps k₄
  refine wpAny_execs_cons ?_
  refine told_st hA B S₄ hx rfl (hD₃.dk (.of_keep k₄)) fun T v₁ v₂ s₅ S₅ hT hv₁ hv₂ d₅ k₅ hg₅ ho₅ => ?_
  refine wpAny_execs_cons ?_
  refine if_told hA hu B S₅ hx hsz ((hW₂.dk d₄).dk d₅) rfl hT hv₁ hv₂ fun s₆ k₆ hg₆ ho₆ => ?_
  refine wpAny_execs_cons ?_
  refine start_loop hA hu B (S₅.keeps k₆) hx (((hW₂.dk d₄).dk d₅).dk (.of_keep k₆)) hsz fun s₇ m₇ vst₇ hs₇ S₇ k₇ hg₇ ho₇ => ?_
  refine wpAny_execs_nil ?_
  refine hQ s₇ m₇ _ vst₇ hs₇ S₇ ?_ (hg₇.trans (hg₆.trans (hg₅.trans (hg₄.trans (hg₃.trans hg₂))))) (ho₇.trans (ho₆.trans (ho₅.trans (ho₄.trans (ho₃.trans ho₂)))))
  intro b o hb e
  exact (k₁.trans (k₂.trans ((Kp.ofL k₃).trans ((Kp.of_keep k₄).trans ((Kp.ofL k₅).trans ((Kp.of_keep k₆).trans k₇)))))) b o hb (Nat.ne_of_lt (Heap.lt_size e)) e

theorem wr_of (i : Nat) (v : Value) (t0 t1 t2 : Tok) (h : (#[Value.str (Str.ofString "ends") t0, .str (Str.ofString "dots") t1, .str (Str.ofString "both") t2] : Array Value)[i]? = some v) : ∃ wr t, v = .str (wstr wr) t := by
  have hi : i = 0 ∨ i = 1 ∨ i = 2 := by
    have := (Array.getElem?_eq_some_iff.mp h).1
    have : i < 3 := this
    omega
  rcases hi with rfl | rfl | rfl
  · cases h; exact ⟨.ends, _, rfl⟩
  · cases h; exact ⟨.dots, _, rfl⟩
  · cases h; exact ⟨.both, _, rfl⟩
end
end Mine

end

section
namespace Mine
open PySem PySem.W PySem.Calls PyProof.Rows
set_option maxRecDepth 100000
local macro_rules | `(tactic| walk_at "gname") => `(tactic| first
  | with_reducible exact g_law_joined _
  | with_reducible exact g_law_single _
  | with_reducible exact g_law_word _
  | with_reducible exact g_law_text _
  | with_reducible exact g_law_put_ahead _
  | with_reducible exact g_reduce _
  | with_reducible exact g_fix_eols _
  | with_reducible exact g_quote_periods _
  | with_reducible exact g_quotedata _
  | with_reducible exact g_CRLF _
  | with_reducible exact g_twin_re_1 _
  | with_reducible exact g_twin_re_2 _
  | with_reducible exact g_twin_re_3 _
  | with_reducible exact g_initial_missing _)
local macro_rules | `(tactic| walk_at "gnone") => `(tactic| first
  | with_reducible exact gn_range _
  | with_reducible exact gn_len _
  | with_reducible exact gn_ord _
  | with_reducible exact gn_chr _
  | with_reducible exact gn_bytes _
  | with_reducible exact gn_sum _
  | with_reducible exact gn_iter _
  | with_reducible exact gn_next _
  | with_reducible exact gn_enumerate _)
local macro_rules | `(tactic| walk_at "bname") => `(tactic| first
  | with_reducible exact b_range
  | with_reducible exact b_len
  | with_reducible exact b_ord
  | with_reducible exact b_chr
  | with_reducible exact b_bytes
  | with_reducible exact b_sum
  | with_reducible exact b_iter
  | with_reducible exact b_next
  | with_reducible exact b_enumerate)
local macro_rules | `(tactic| walk_at "ast") => `(tactic| first
  | with_reducible refine wpAny_execs_cons ?_
  | with_reducible refine wpAny_execs_nil ?_
  | ((with_reducible refine wpAny_Assign_Name ?_ ?p1); (case p1 => rfl))
  | with_reducible refine wpAny_If ?_
  | with_reducible refine wpAny_Return_some ?_
  | with_reducible refine isTrue_and ?_
  | with_reducible refine isTrue_and_nil ?_
  | with_reducible refine wpAny_isTrue_Compare1 ?_
  | with_reducible refine wpAny_Compare1 ?_
  | with_reducible refine wpAny_IfExp ?_
  | ((with_reducible show wpAny _ _ (PySem.isTrue (Expr.Subscript _ _ _) _ _) _ _ _); refine isTrue_plain ?_ (by rfl))
  | with_reducible refine Subscript_ ?_
  | with_reducible refine wpAny_Constant_int ?_
  | with_reducible refine wpAny_Constant_str ?_
  | with_reducible refine wpAny_Constant_bool ?_
  | with_reducible refine wpAny_Constant_none ?_
  | with_reducible refine wpAny_Slice ?_
  | with_reducible refine evalPart_none_step ?_
  | with_reducible refine evalPart_some_step ?_
  | with_reducible refine wpAny_UnaryOp ?_
  | with_reducible refine neg_int ?_
  | with_reducible refine wpAny_BinOp ?_
  | with_reducible refine wpAny_Tuple ?_
  | ((with_reducible show wpAny _ _ (spliced (backTo _ (starEach (_ :: _) _))) _ _ _); refine wpAny_items_cons ?_)
  | ((with_reducible show wpAny _ _ (spliced (backTo _ (starEach [] _))) _ _ _); refine wpAny_items_nil ?_)
  | with_reducible refine wpAny_truthy_bool ?_
  | with_reducible refine PySem.P.eq_str ?_
  | with_reducible refine PySem.P.ne_str ?_
  | with_reducible refine PySem.P.in_str ?_
  | ((with_reducible show wpAny _ _ (eval (Expr.Call (Expr.Name _ _) _ [] _) _) _ _ _); refine Call_ ?_)
  | ((with_reducible show wpAny _ _ (callWith _ (Value.builtin _) [] (backTo _ (starEach (_ :: _) _)) []) _ _ _); refine PyProof.Rows.callWith_builtin1 ?_)
  | ((with_reducible show wpAny _ _ (eval (Expr.Name _ _) _) _ _ _); refine nmL (by first | assumption | exact EnvOk.comp (by assumption) _ rfl _ _) (by assumption) (by rfl) (by first | assumption | rfl) ?_ (by decide))
  | ((with_reducible show wpAny _ _ (eval (Expr.Name _ _) _) _ _ _); refine nmG (by first | assumption | exact EnvOk.comp (by assumption) _ rfl _ _) (Base.keeps (by assumption) (Fr.keep (by assumption))) (by rfl) (by walk_at "gname") ?_ (by decide))
  | ((with_reducible show wpAny _ _ (eval (Expr.Name _ _) _) _ _ _); refine nmB (by first | assumption | exact EnvOk.comp (by assumption) _ rfl _ _) (Base.keeps (by assumption) (Fr.keep (by assumption))) (by rfl) (by walk_at "gnone") (by walk_at "bname") (by decide) ?_ (by decide))
  | ((with_reducible show wpAny _ _ (eval (Expr.Name _ _) _) _ _ _); refine nmC (by first | assumption | exact EnvOk.comp (by assumption) _ rfl _ _) (by rfl) (by rfl) (by assumption) ?_ (by decide))
  | ((with_reducible show wpAny _ _ (subscriptTail _ _ (Value.ref _) (Value.int _ _)) _ _ _); refine word_item (by assumption) (by assumption) (by rfl) (by rfl) (by decide) (by decide) ?_ (by rfl)))


theorem list_iter_at (h : Heap) (o₁ : Obj) (l : Addr) : ((h.push o₁).push { cls := .type "list_iterator", data := .fields #[.ref l, .int 0 0] }).IsListIter (h.objs.size + 1) l 0 := by
  have := Heap.get?_push_size (h.push o₁) (o := { cls := .type "list_iterator", data := .fields #[.ref l, .int 0 0] }) rfl
  rw [Heap.size_push] at this
  exact ⟨_, this, rfl, rfl⟩

theorem lst_of {h₀ h : Heap} {L : Addr} {m : Str → Option Value} {o0 o1 o2 o3 : Obj} {v0 v1 v2 v3 : Option Value} (F : Fr h₀ L h m) (N : News h₀ L h [(L + 1 + 1 + 1 + 1, o3), (L + 1 + 1 + 1, o2), (L + 1 + 1, o1), (L + 1, o0)])
    (d0 : o0.data = .cell v0) (d1 : o1.data = .cell v1) (d2 : o2.data = .cell v2) (d3 : o3.data = .cell v3) : LSt h₀ L h m v0 v1 v2 v3 :=
  ⟨F, ⟨_, (N (L + 1, o0) (by simp)).1, d0⟩, ⟨_, (N (L + 1 + 1, o1) (by simp)).1, d1⟩, ⟨_, (N (L + 1 + 1 + 1, o2) (by simp)).1, d2⟩, ⟨_, (N (L + 1 + 1 + 1 + 1, o3) (by simp)).1, d3⟩⟩

theorem ints_of' : ∀ {vs : List Value} {ns : List Int}, IntsAre vs ns → ∀ v ∈ vs, ∃ n t, v = Value.int n t := by
  intro vs
  induction vs with
  | nil => intro ns _ v hv; simp at hv
  | cons u r ih =>
    intro ns h v hv
    cases h
    rcases List.mem_cons.mp hv with rfl | hv
    · exact ⟨_, _, rfl⟩
    · exact ih (by assumption) v hv
theorem ints_of {vs : List Value} {ns : List Int} (h : IntsAre vs ns) : ∀ v ∈ vs.toArray, ∃ n t, v = Value.int n t := fun v hv => ints_of' h v (by simpa using hv)
theorem ints_len : ∀ {vs : List Value} {ns : List Int}, IntsAre vs ns → vs.length = ns.length := by
  intro vs
  induction vs with
  | nil => intro ns h; cases h; rfl
  | cons u r ih =>
    intro ns h
    cases h
    simp only [List.length_cons]
    rw [ih (by assumption)]

section
variable {prog : Program} {w : World} {A : Around} {E : Value → Shared → Prop} {s : Shared} {mg mb : Str → Option Value} {L a : Addr} {q : Str} {cd : Value} {h₀ : Heap} {m : Str → Option Value} {vt vw vs vst : Option Value} {x : Str} {Q : Flow → Shared → Prop} {Sc : Addr} {its : Array Value}

set_option maxHeartbeats 2000000 in
theorem writer_loop {R : Result → Shared → Prop} {l I : Addr} {t0 t1 t2 tx ts : Tok} {px : Pos}
    (hA : AOk A 20) (hu : A.units + 10 < cLine) (B : Base w mg mb h₀) (S : LSt h₀ L s.heap m (some (.str x tx)) vw vs vst) (hx : TextOk 5 10 x) (hsz : m (Str.ofString "size") = some (.int (x.cps.size : Int) ts)) (hlI : l ≠ I) (hl4 : L + 4 < l) (hI4 : L + 4 < I)
    (hit : s.heap.IsListIter I l 0) (hl : s.heap.IsList l #[Value.str (Str.ofString "ends") t0, .str (Str.ofString "dots") t1, .str (Str.ofString "both") t2])
    (hR : ∀ s' m', Fr h₀ L s'.heap m' → s'.gens = s.gens → s'.os = s.os → R (.ok .next) s') :
    codeAny (model prog w) A (.forLoop (.Name (Str.ofString "writer") px) (.ref I) wbody [] (lawEnv L a q cd)) R s := by
  have e := lawEnv_ok L a q cd
  have out : ∀ b : Addr, L + 4 < b → ¬ (L ≤ b ∧ b ≤ L + 4) := fun b hb h => Nat.lt_irrefl _ (Nat.lt_of_lt_of_le hb h.2)
  have hn2 : ∀ b : Addr, L + 4 < b → b ≠ L + 2 := fun b hb h => by rw [h] at hb; exact Nat.lt_irrefl _ (Nat.lt_of_lt_of_le hb (nle L (by decide)))
  refine for_walk (Walks.list hA.handled I l hlI _)
    (fun i s' => ∃ m' vw' vs' vst', m' (Str.ofString "size") = some (.int (x.cps.size : Int) ts) ∧ LSt h₀ L s'.heap m' (some (.str x tx)) vw' vs' vst' ∧ (s'.heap.IsListIter I l i ∧ s'.heap.IsList l #[Value.str (Str.ofString "ends") t0, .str (Str.ofString "dots") t1, .str (Str.ofString "both") t2]) ∧ s'.gens = s.gens ∧ s'.os = s.os)
    (fun i s' hi => hi.choose_spec.choose_spec.choose_spec.choose_spec.2.2.1) ?_ ?_ ⟨m, vw, vs, vst, hsz, S, ⟨hit, hl⟩, rfl, rfl⟩
  · rintro i s' v h' tk E' hi ⟨m', vw', vs', vst', hs', S', _, hg, ho⟩ hv hst' hk'
    obtain ⟨wr, t, rfl⟩ := wr_of i v t0 t1 t2 hv
    refine lst_writer' (h₀ := h₀) e (S'.keepI hI4 hk') (by rfl) (by rfl) fun h₃ S₃ d₃ hs₃ => ?_
    refine writer_body hA hu B S₃ hx hs' fun s₄ m₄ vs₄ vst₄ hs₄ S₄ hk₄ hg₄ ho₄ => ?_
    have up : ∀ (b : Addr) (o : Obj), L + 4 < b → h'.get? b = some o → s₄.heap.get? b = some o := fun b o hb e => hk₄ b o (out b hb) ((hs₃.2 b (hn2 b hb)).trans e)
    exact ⟨m₄, _, vs₄, vst₄, hs₄, S₄, ⟨hst'.1.at fun o e => up _ o hI4 e, hst'.2.at fun o e => up _ o hl4 e⟩, hg₄.trans hg, ho₄.trans ho⟩
  · rintro s' h' tk ⟨m', vw', vs', vst', hs', S', _, hg, ho⟩ hk'
    exact hR _ m' (S'.keepI hI4 hk').F hg ho

set_option maxHeartbeats 2000000 in
theorem law_body
    (hA : AOk A 20) (hu : A.units + 10 < cLine) (B : Base w mg mb h₀) (S : LSt h₀ L s.heap m vt vw vs vst) (hms : m (Str.ofString "script") = some (.ref Sc)) (hS : s.heap.IsList Sc its) (hvs : ∀ v ∈ its, ∃ n t, v = Value.int n t) (hsz : its.size ≤ 1000)
    (hQ : ∀ s' m', Fr h₀ L s'.heap m' → s'.gens = s.gens → s'.os = s.os → Q (.ret (.bool true)) s') :
    wpAny (model prog w) A (execs (bodyOf (stmtAt 18)) (lawEnv L a q cd)) Q E s := by
  have e := lawEnv_ok L a q cd
  have F := S.F
  refine wpAny_execs_cons ?_
  refine wpAny_Assign_Name ?_ rfl
  repeat walk_at "ast"
  refine cw_fn (fn_text _) ?_
  repeat walk_at "ast"
  refine ⟨(B.keeps F.keep).k, ?_⟩
  refine call_text (n := 20) hA (by decide) (B.keeps F.keep) hS hvs hsz fun x tx s₁ hx hk₁ => ?_
  obtain ⟨h₁, k₁, rfl, hk₁⟩ := hk₁
  have hx10 := hx.2.1
  refine lst_text (h₀ := h₀) e (S.keeps hk₁) (by rfl) (by rfl) fun h₂ S₂ d₂ => ?_
  refine wpAny_execs_cons ?_
  refine wpAny_Assign_Name ?_ rfl
  have F₂ := S₂.F
  have c1 := S₂.t
  repeat walk_at "ast"
  refine PySem.P.len_str (by show ¬ ((x.cps.size : Nat) : Int) ≥ 2 ^ 63; omega) ?_
  refine lst_local' (h₀ := h₀) e S₂ (by rfl) fun h₃ S₃ d₃ hs₃ => ?_
  refine wpAny_execs_cons ?_
  refine wpAny_For ?_ (fun _ => rfl)
  refine wpAny_List ?_
  repeat walk_at "ast"
  refine ⟨by show 3 ≤ sizeLine; rw [sizeLine_eq]; decide, ?_⟩
  have hl : ∀ vs : List Value, (h₃.push { cls := .type "list", data := .seq vs.toArray }).IsList h₃.objs.size vs.toArray := fun vs => ⟨_, Heap.get?_push_size _ rfl, rfl, _, rfl⟩
  have hz : ∀ ob : Obj, (h₃.push ob).objs.size = h₃.objs.size + 1 := fun ob => Heap.size_push ..
  refine wpAny_pyIter_list (hl _) ?_
  dsimp only
  rw [hz]
  have hI4 : L + 4 < h₃.objs.size := S₃.lt
  have hup : ∀ (o₁ o₂ : Obj) (b : Addr) (o : Obj), h₃.get? b = some o → ((h₃.push o₁).push o₂).get? b = some o := fun o₁ o₂ b o e => Heap.get?_push_of_some _ (Heap.get?_push_of_some _ e)
  refine writer_loop (l := h₃.objs.size) (I := h₃.objs.size + 1) (ts := k₁ + 1) (t0 := k₁ + 1 + 1 + 1) (t1 := k₁ + 1 + 1 + 1 + 1) (t2 := k₁ + 1 + 1 + 1 + 1 + 1) hA hu B (S₃.keeps (hup _ _)) hx rfl (Nat.ne_of_lt (Nat.lt_succ_self _)) hI4 (Nat.lt_succ_of_lt hI4) ?_ ?_ fun s₄ m₄ F₄ hg₄ ho₄ => ?_
  · exact list_iter_at _ _ _
  · exact (hl _).at fun o e => Heap.get?_push_of_some _ e
  · refine wpAny_execs_cons ?_
    repeat walk_at "ast"
    exact hQ _ m₄ F₄ hg₄ ho₄
end
end Mine

end

open PySem PySem.W PySem.Calls PyProof.Rows
theorem Mine.caller_ok (env : Env) : Mine.AOk (callerA.deeper env) 20 := Mine.AOk.deeper (n := 19) ⟨rfl, by decide, by decide⟩ env
theorem Mine.caller_u (env : Env) : (callerA.deeper env).units + 10 < cLine := by
  show callerA.units + 3 + 10 < cLine
  decide
set_option maxRecDepth 100000 in
set_option maxHeartbeats 8000000 in
theorem PySem.Challenge.cw_nb0038_01_holds : PySem.Challenge.rw_nb0038_01.Holds := by
  refine Mine.hd (by
  k_go0
  have KX := ‹(Mine.hd.heap_39 _).In _›
  have T := topRead_of ‹Top _ _ _ _ _ _›
  have hL := ‹Heap.IsList _ _ _›
  have hI := ‹IntsAre _ _›
  have F := ‹Fr _ _ _ _›
  have hlen := ‹¬ (_ < _)›
  have hg := ‹Shared.gens _ = #[]›
  have S := Mine.lst_of F (by assumption) (by assumption) (by assumption) (by assumption) (by assumption)
  refine Mine.law_body (Mine.caller_ok _) (Mine.caller_u _) ⟨KX, T.g, T.b, T.nolimit, T.builtins⟩ S ?hms (hL.at fun o e => F.keep _ _ e) (Mine.ints_of hI) ?hsz fun s' m' F' hg' ho' => ?post
  case hms => rfl
  case hsz => have := Mine.ints_len hI; rw [List.size_toArray]; omega
  case post => exact goodW_bool F' (hg'.trans hg) (fun _ => rfl) (by with_unfolding_all rfl) ho')
