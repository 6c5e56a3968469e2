import PyProof.Rows.All
import Wide.All
import OpenK.AllK
import Wide.FinOn
import PySem.Challenge.RW_pg0011_01
set_option Elab.async false
set_option maxRecDepth 100000
section
namespace Mine
open PySem PySem.Sre

def code1 : Array Nat := #[14, 4, 0, 1, 1, 6, 1, 16, 46, 1]
def code2 : Array Nat := #[14, 9, 4, 1, 2, 16, 10, 16, 13, 0, 7, 7, 16, 13, 16, 10, 15, 18, 5, 16, 10, 15, 13, 11, 16, 13, 5, 5, 0, 16, 10, 1, 15, 2, 0, 1]

/-- the machine at a fresh start s -/
def st (code text : Array Nat) (pc0 s : Nat) (first : Bool) (seen : Seen) : M :=
  { code, text, lim := text.size, start := s, lastStart := text.size, pc := pc0, pos := s, handed := s, outermost := first, marks := #[],
    frames := [{ wait := .nextStart, pc := pc0, pos := s, outermost := first }], weight := 1, seen }

/-- what a search ends in: none, or a place found -/
def EndsIn (m : M) : Option (Nat × Nat) → Prop
  | none => m.outcome = some .failed
  | some (s, e) => m.outcome = some .matched ∧ m.start = s ∧ m.handed = e

theorem runFor_add (a b : Nat) : ∀ m : M, M.runFor (a + b) m = M.runFor b (M.runFor a m) := by
  induction a with
  | zero => intro m; simp [M.runFor]
  | succ a ih =>
    intro m
    rw [Nat.succ_add]
    simp only [M.runFor]
    split
    · rename_i h
      cases b with
      | zero => rfl
      | succ b => simp [M.runFor, h]
    · exact ih _

theorem runFor_done {m : M} (h : m.outcome.isSome = true) (n : Nat) : M.runFor n m = m := by
  cases n with
  | zero => rfl
  | succ n => simp [M.runFor, h]

theorem runFor_step {m : M} (h : m.outcome = none) (n : Nat) : M.runFor (n + 1) m = M.runFor n m.step := by
  simp [M.runFor, h]

/-- within N steps the machine ends in r -/
def Leads (N : Nat) (m : M) (r : Option (Nat × Nat)) : Prop := ∃ k, k ≤ N ∧ EndsIn (M.runFor k m) r

theorem Leads.mono {N N' : Nat} {m : M} {r : Option (Nat × Nat)} (h : Leads N m r) (hN : N ≤ N') : Leads N' m r := by
  obtain ⟨k, hk, he⟩ := h
  exact ⟨k, Nat.le_trans hk hN, he⟩
theorem Leads.step {N : Nat} {m m' : M} {r : Option (Nat × Nat)} (ho : m.outcome = none) (hm : m.step = m') (h : Leads N m' r) : Leads (N + 1) m r := by
  obtain ⟨k, hk, he⟩ := h
  exact ⟨k + 1, Nat.succ_le_succ hk, by rw [runFor_step ho, hm]; exact he⟩
theorem Leads.here {m : M} {r : Option (Nat × Nat)} (h : EndsIn m r) : Leads 0 m r := ⟨0, Nat.le_refl _, h⟩

section
variable {text : Array Nat} {s : Nat} {first : Bool} {seen : Seen} {pc : Nat}

theorem st1_at : M.step (st code1 text 5 s first seen) = if (s == 0 || text.getD (s - 1) 0 == 10) = true then
    { st code1 text 5 s first ((seen.add 6).add 44) with pc := 7 } else { st code1 text 5 s first ((seen.add 6).add 44) with answer := some false } := rfl
theorem st1_fail : M.step { st code1 text 5 s first seen with pc := pc, answer := some false } = if s < text.size then st code1 text 5 (s + 1) false seen else
    { st code1 text 5 s first seen with answer := some false, frames := [], weight := 0 } := rfl
theorem st1_lit : M.step { st code1 text 5 s first seen with pc := 7 } = if s ≥ text.size then { st code1 text 5 s first (seen.add 16) with pc := 7, answer := some false } else
    if (text.getD s 0 == 46) = true then { st code1 text 5 s first (seen.add 16) with pc := 9, pos := s + 1 } else { st code1 text 5 s first (seen.add 16) with pc := 7, answer := some false } := by
  show (if s ≥ text.size then _ else match (Except.ok (text.getD s 0 == 46, _) : Except String (Bool × Seen)) with | .error why => _ | .ok (false, seen) => _ | .ok (true, seen) => _) = _
  split
  · rfl
  · cases text.getD s 0 == 46 <;> rfl
theorem st1_succ : M.step { st code1 text 5 s first seen with pc := 9, pos := s + 1 } = { st code1 text 5 s first (seen.add 1) with pc := 9, pos := s + 1, handed := s + 1, answer := some true } := by
  cases first <;> rfl
theorem st1_yes {p q : Nat} : M.step { st code1 text 5 s first seen with pc := pc, pos := p, handed := q, answer := some true } = { st code1 text 5 s first seen with handed := q, answer := some true, frames := [], weight := 0 } := rfl
theorem st1_yes' {q : Nat} : M.step { st code1 text 5 s first seen with handed := q, answer := some true, frames := [], weight := 0 } = { st code1 text 5 s first seen with handed := q, answer := some true, frames := [], weight := 0, outcome := some .matched } := rfl
theorem st1_no' : M.step { st code1 text 5 s first seen with answer := some false, frames := [], weight := 0 } = { st code1 text 5 s first seen with answer := some false, frames := [], weight := 0, outcome := some .failed } := rfl
end

/-- a dot at a row's beginning -/
def find1 : Bool → Nat → List Nat → Option (Nat × Nat)
  | _, _, [] => none
  | b, p, c :: r => if (b && c == 46) = true then some (p, p + 1) else find1 (c == 10) (p + 1) r

def bol (text : Array Nat) (p : Nat) : Bool := p == 0 || text.getD (p - 1) 0 == 10

theorem run1 (text : Array Nat) : ∀ (n s : Nat) (first : Bool) (seen : Seen), s + n = text.size →
    Leads (4 * n + 6) (st code1 text 5 s first seen) (find1 (bol text s) s (text.toList.drop s)) := by
  intro n
  induction n with
  | zero =>
    intro s first seen hs
    have hd : text.toList.drop s = [] := List.drop_eq_nil_of_le (by simp; omega)
    rw [hd]
    have fin : ∀ (seen : Seen) (pc : Nat), Leads 2 { st code1 text 5 s first seen with pc := pc, answer := some false } none := by
      intro seen pc
      refine .step rfl (st1_fail.trans (if_neg (by omega))) ?_
      exact .step rfl st1_no' (.here rfl)
    show Leads (5 + 1) _ none
    refine .step rfl st1_at ?_
    split
    · refine Leads.mono (N := 3) ?_ (by omega)
      refine .step rfl (st1_lit.trans (if_pos (by omega))) ?_
      exact fin _ _
    · exact (fin _ 5).mono (by omega)
  | succ n ih =>
    intro s first seen hs
    have hlt : s < text.size := by omega
    have hd : text.toList.drop s = text.getD s 0 :: text.toList.drop (s + 1) := by
      rw [List.drop_eq_getElem_cons (by simpa using hlt)]
      simp [Array.getD, hlt]
    have hb : bol text (s + 1) = (text.getD s 0 == 10) := by simp [bol]
    rw [hd, find1, ← hb]
    have fin : ∀ (seen : Seen) (pc : Nat), Leads (4 * n + 7) { st code1 text 5 s first seen with pc := pc, answer := some false } (find1 (bol text (s + 1)) (s + 1) (text.toList.drop (s + 1))) := by
      intro seen pc
      refine .step rfl (st1_fail.trans (if_pos hlt)) ?_
      exact ih _ _ _ (by omega)
    refine Leads.mono (N := 4 * n + 9 + 1) ?_ (by omega)
    refine .step rfl st1_at ?_
    show Leads (4 * n + 9) _ (if (bol text s && text.getD s 0 == 46) = true then _ else _)
    cases hbs : bol text s with
    | false =>
      rw [if_neg (c := (false && text.getD s 0 == 46) = true) (by simp)]
      rw [if_neg (by unfold bol at hbs; rw [hbs]; exact Bool.false_ne_true)]
      exact (fin _ 5).mono (by omega)
    | true =>
      rw [if_pos (by unfold bol at hbs; exact hbs)]
      refine Leads.mono (N := 4 * n + 8 + 1) ?_ (by omega)
      refine .step rfl (st1_lit.trans (if_neg (by omega))) ?_
      cases hc : text.getD s 0 == 46 with
      | false =>
        rw [if_neg (c := (true && false) = true) (by simp), if_neg (by simp)]
        exact (fin _ _).mono (by omega)
      | true =>
        rw [if_pos (c := (true && true) = true) rfl, if_pos rfl]
        refine Leads.mono (N := 3) ?_ (by omega)
        refine .step rfl st1_succ ?_
        refine .step rfl st1_yes ?_
        refine .step rfl st1_yes' ?_
        exact .here ⟨rfl, rfl, rfl⟩

theorem search1 (text : Array Nat) (p : Nat) (hp : p ≤ text.size) :
    Leads (4 * text.size + 7) (forSearch code1 text 0 p text.size false) (find1 (bol text p) p (text.toList.drop p)) := by
  by_cases h : p = text.size
  · have hd : text.toList.drop p = [] := List.drop_eq_nil_of_le (by simp; omega)
    rw [hd]
    have e : forSearch code1 text 0 p text.size false = _ := if_pos (by subst h; simp [header, code1, ops])
    rw [e]
    refine Leads.mono (N := 1) ?_ (by omega)
    exact .step rfl rfl (.here rfl)
  · have e : forSearch code1 text 0 p text.size false = _ := if_neg (by simp [header, code1, ops]; omega)
    rw [e]
    exact (run1 text (text.size - p) p true _ (by omega)).mono (by omega)
end Mine
end
section
namespace Mine
open PySem PySem.Sre

/-- a row's end: CR LF, LF, or CR -/
def find2 : Nat → List Nat → Option (Nat × Nat)
  | _, [] => none
  | p, c :: r => if (c == 10) = true then some (p, p + 1) else if (c == 13) = true then (if (r.head? == some 10) = true then some (p, p + 2) else some (p, p + 1)) else find2 (p + 1) r

theorem inSet2 (c : Nat) (seen : Seen) : inSet code2 c 36 5 true seen = if (c == 10) = true then .ok (true, seen.add 16) else if (c == 13) = true then .ok (true, (seen.add 16).add 16) else .ok (false, ((seen.add 16).add 16).add 0) := rfl

section
variable {text : Array Nat} {s : Nat} {seen : Seen} {pc p hnd : Nat}

/-- behind the start: the frames of the start and of an alternative -/
def fr0 (s : Nat) : Sre.Frame := { wait := .nextStart, pc := 10, pos := s, outermost := true }
def alt (s pc : Nat) : Sre.Frame := { wait := .nextBranch, pc := pc, pos := s, outermost := true, kept := {} }
def nt (s : Nat) : Sre.Frame := { wait := .lookNot, pc := 26, pos := s + 1, outermost := true, kept := {} }
def bk (text : Array Nat) (s pc p hnd : Nat) (out : Bool) (frames : List Sre.Frame) (weight : Nat) (seen : Seen) : M :=
  { st code2 text 10 s true seen with pc := pc, pos := p, handed := hnd, outermost := out, frames := frames, weight := weight }

theorem b_branch : M.step (st code2 text 10 s true seen) = bk text s 12 s s true [alt s 11, fr0 s] 2 (seen.add 7) := rfl
theorem b_lit12 {out : Bool} {frames : List Sre.Frame} {weight : Nat} :
    M.step (bk text s 12 p hnd out frames weight seen) = if p ≥ text.size then { bk text s 12 p hnd out frames weight (seen.add 16) with answer := some false } else
      if (text.getD p 0 == 13) = true then bk text s 14 (p + 1) hnd out frames weight (seen.add 16) else { bk text s 12 p hnd out frames weight (seen.add 16) with answer := some false } := by
  show (if p ≥ text.size then _ else match (Except.ok (text.getD p 0 == 13, _) : Except String (Bool × Seen)) with | .error why => _ | .ok (false, seen) => _ | .ok (true, seen) => _) = _
  split
  · rfl
  · cases text.getD p 0 == 13 <;> rfl
theorem b_lit14 {out : Bool} {frames : List Sre.Frame} {weight : Nat} :
    M.step (bk text s 14 p hnd out frames weight seen) = if p ≥ text.size then { bk text s 14 p hnd out frames weight (seen.add 16) with answer := some false } else
      if (text.getD p 0 == 10) = true then bk text s 16 (p + 1) hnd out frames weight (seen.add 16) else { bk text s 14 p hnd out frames weight (seen.add 16) with answer := some false } := by
  show (if p ≥ text.size then _ else match (Except.ok (text.getD p 0 == 10, _) : Except String (Bool × Seen)) with | .error why => _ | .ok (false, seen) => _ | .ok (true, seen) => _) = _
  split
  · rfl
  · cases text.getD p 0 == 10 <;> rfl
theorem b_lit19 {out : Bool} {frames : List Sre.Frame} {weight : Nat} :
    M.step (bk text s 19 p hnd out frames weight seen) = if p ≥ text.size then { bk text s 19 p hnd out frames weight (seen.add 16) with answer := some false } else
      if (text.getD p 0 == 10) = true then bk text s 21 (p + 1) hnd out frames weight (seen.add 16) else { bk text s 19 p hnd out frames weight (seen.add 16) with answer := some false } := by
  show (if p ≥ text.size then _ else match (Except.ok (text.getD p 0 == 10, _) : Except String (Bool × Seen)) with | .error why => _ | .ok (false, seen) => _ | .ok (true, seen) => _) = _
  split
  · rfl
  · cases text.getD p 0 == 10 <;> rfl
theorem b_lit24 {out : Bool} {frames : List Sre.Frame} {weight : Nat} :
    M.step (bk text s 24 p hnd out frames weight seen) = if p ≥ text.size then { bk text s 24 p hnd out frames weight (seen.add 16) with answer := some false } else
      if (text.getD p 0 == 13) = true then bk text s 26 (p + 1) hnd out frames weight (seen.add 16) else { bk text s 24 p hnd out frames weight (seen.add 16) with answer := some false } := by
  show (if p ≥ text.size then _ else match (Except.ok (text.getD p 0 == 13, _) : Except String (Bool × Seen)) with | .error why => _ | .ok (false, seen) => _ | .ok (true, seen) => _) = _
  split
  · rfl
  · cases text.getD p 0 == 13 <;> rfl
theorem b_lit29 {out : Bool} {frames : List Sre.Frame} {weight : Nat} :
    M.step (bk text s 29 p hnd out frames weight seen) = if p ≥ text.size then { bk text s 29 p hnd out frames weight (seen.add 16) with answer := some false } else
      if (text.getD p 0 == 10) = true then bk text s 31 (p + 1) hnd out frames weight (seen.add 16) else { bk text s 29 p hnd out frames weight (seen.add 16) with answer := some false } := by
  show (if p ≥ text.size then _ else match (Except.ok (text.getD p 0 == 10, _) : Except String (Bool × Seen)) with | .error why => _ | .ok (false, seen) => _ | .ok (true, seen) => _) = _
  split
  · rfl
  · cases text.getD p 0 == 10 <;> rfl
/-- an alternative falls: the next one -/
theorem b_next11 {pc p hnd : Nat} : M.step { bk text s pc p hnd true [alt s 11, fr0 s] 2 seen with answer := some false } = bk text s 19 s s true [alt s 18, fr0 s] 2 seen := rfl
theorem b_next18 {pc p hnd : Nat} : M.step { bk text s pc p hnd true [alt s 18, fr0 s] 2 seen with answer := some false } = bk text s 24 s s true [alt s 23, fr0 s] 2 seen := rfl
theorem b_jump16 {a : Nat} : M.step (bk text s 16 p hnd true [alt s a, fr0 s] 2 seen) = bk text s 35 p hnd true [alt s a, fr0 s] 2 (seen.add 15) := rfl
theorem b_jump21 {a : Nat} : M.step (bk text s 21 p hnd true [alt s a, fr0 s] 2 seen) = bk text s 35 p hnd true [alt s a, fr0 s] 2 (seen.add 15) := rfl
theorem b_jump32 {a : Nat} : M.step (bk text s 32 p hnd true [alt s a, fr0 s] 2 seen) = bk text s 35 p hnd true [alt s a, fr0 s] 2 (seen.add 15) := rfl
theorem b_not {a : Nat} : M.step (bk text s 26 (s + 1) hnd true [alt s a, fr0 s] 2 seen) = bk text s 29 (s + 1) (s + 1) false [nt s, alt s a, fr0 s] 3 (seen.add 5) := rfl
theorem b_notno {a : Nat} : M.step { bk text s pc p hnd false [nt s, alt s a, fr0 s] 3 seen with answer := some false } = bk text s 32 (s + 1) hnd true [alt s a, fr0 s] 2 seen := rfl
theorem b_succ {frames : List Sre.Frame} {weight : Nat} : M.step (bk text s 35 p hnd true frames weight seen) = { bk text s 35 p p true frames weight (seen.add 1) with answer := some true } := rfl
theorem b_yes1 {a : Nat} : M.step { bk text s pc p hnd true [alt s a, fr0 s] 2 seen with answer := some true } = { bk text s a s hnd true [fr0 s] 1 seen with answer := some true } := rfl
theorem b_yes0 : M.step { bk text s pc p hnd true [fr0 s] 1 seen with answer := some true } = { bk text s 10 s hnd true [] 0 seen with answer := some true } := rfl
theorem b_yes : M.step { bk text s pc p hnd true [] 0 seen with answer := some true } = { bk text s pc p hnd true [] 0 seen with answer := some true, outcome := some .matched } := rfl
end

theorem fin2 {text : Array Nat} {s p hnd a : Nat} {seen : Seen} : Leads 4 (bk text s 35 p hnd true [alt s a, fr0 s] 2 seen) (some (s, p)) := by
  refine .step rfl b_succ ?_
  refine .step rfl b_yes1 ?_
  refine .step rfl b_yes0 ?_
  refine .step rfl b_yes ?_
  exact .here ⟨rfl, rfl, rfl⟩

theorem start2 {text : Array Nat} {s : Nat} {seen : Seen} (hs : s < text.size) (hc : text.getD s 0 = 10 ∨ text.getD s 0 = 13) :
    Leads 20 (st code2 text 10 s true seen) (if (text.getD s 0 == 10) = true then some (s, s + 1) else if (text.getD (s + 1) 0 == 10) = true then some (s, s + 2) else some (s, s + 1)) := by
  have h1 : ¬ s ≥ text.size := by omega
  rcases hc with hc | hc
  · rw [if_pos (by rw [hc]; rfl)]
    refine Leads.mono (N := 9) ?_ (by omega)
    refine .step rfl b_branch ?_
    refine .step rfl ((b_lit12.trans (if_neg h1)).trans (if_neg (by rw [hc]; decide))) ?_
    refine .step rfl b_next11 ?_
    refine .step rfl ((b_lit19.trans (if_neg h1)).trans (if_pos (by rw [hc]; decide))) ?_
    refine .step rfl b_jump21 ?_
    exact fin2
  · rw [if_neg (by rw [hc]; decide)]
    by_cases h2 : text.getD (s + 1) 0 = 10
    · have h3 : ¬ s + 1 ≥ text.size := by
        intro h
        have : text.getD (s + 1) 0 = 0 := by simp [Array.getD, Nat.not_lt.mpr h]
        omega
      rw [if_pos (by rw [h2]; rfl)]
      refine Leads.mono (N := 8) ?_ (by omega)
      refine .step rfl b_branch ?_
      refine .step rfl ((b_lit12.trans (if_neg h1)).trans (if_pos (by rw [hc]; decide))) ?_
      refine .step rfl ((b_lit14.trans (if_neg h3)).trans (if_pos (by rw [h2]; decide))) ?_
      refine .step rfl b_jump16 ?_
      exact fin2
    · have h4 : ¬ (text.getD (s + 1) 0 == 10) = true := by simpa using h2
      rw [if_neg h4]
      refine Leads.mono (N := 15) ?_ (by omega)
      refine .step rfl b_branch ?_
      refine .step rfl ((b_lit12.trans (if_neg h1)).trans (if_pos (by rw [hc]; decide))) ?_
      have e14 : ∀ seen, M.step (bk text s 14 (s + 1) s true [alt s 11, fr0 s] 2 seen) = { bk text s 14 (s + 1) s true [alt s 11, fr0 s] 2 (seen.add 16) with answer := some false } := by
        intro seen
        rw [b_lit14]
        split
        · rfl
        · first | rfl | rw [if_neg h4]
      refine .step rfl (e14 _) ?_
      refine .step rfl b_next11 ?_
      refine .step rfl ((b_lit19.trans (if_neg h1)).trans (if_neg (by rw [hc]; decide))) ?_
      refine .step rfl b_next18 ?_
      refine .step rfl ((b_lit24.trans (if_neg h1)).trans (if_pos (by rw [hc]; decide))) ?_
      refine .step rfl b_not ?_
      have e29 : ∀ seen, M.step (bk text s 29 (s + 1) (s + 1) false [nt s, alt s 23, fr0 s] 3 seen) = { bk text s 29 (s + 1) (s + 1) false [nt s, alt s 23, fr0 s] 3 (seen.add 16) with answer := some false } := by
        intro seen
        rw [b_lit29]
        split
        · rfl
        · first | rfl | rw [if_neg h4]
      refine .step rfl (e29 _) ?_
      refine .step rfl b_notno ?_
      refine .step rfl b_jump32 ?_
      exact fin2

/-- the first place at or behind s that holds a row's end -/
def adm : Nat → List Nat → Option Nat
  | _, [] => none
  | p, c :: r => if (c == 10 || c == 13) = true then some p else adm (p + 1) r

theorem drop_getD {text : Array Nat} {s : Nat} (hlt : s < text.size) : text.toList.drop s = text.getD s 0 :: text.toList.drop (s + 1) := by
  rw [List.drop_eq_getElem_cons (by simpa using hlt)]
  simp [Array.getD, hlt]
theorem drop_end {text : Array Nat} {s : Nat} (h : text.size ≤ s) : text.toList.drop s = [] := List.drop_eq_nil_of_le (by simpa using h)

theorem admitted2 {m : M} {text : Array Nat} (hcode : m.code = code2) (htext : m.text = text) (hlim : m.lim = text.size) :
    ∀ (fuel s : Nat) (seen : Seen), s + fuel = text.size + 1 → ∃ seen', M.admitted m fuel s seen = .ok (adm s (text.toList.drop s), seen') := by
  intro fuel
  induction fuel with
  | zero =>
    intro s seen h
    rw [drop_end (by omega)]
    exact ⟨seen, rfl⟩
  | succ fuel ih =>
    intro s seen h
    unfold M.admitted
    rw [hcode, htext, hlim]
    by_cases hs : s ≥ text.size
    · rw [if_pos hs, drop_end hs]
      exact ⟨seen, rfl⟩
    · rw [if_neg hs, drop_getD (by omega)]
      rw [show code2.size = 36 from rfl, inSet2]
      unfold adm
      cases h10 : text.getD s 0 == 10 with
      | true => exact ⟨_, rfl⟩
      | false =>
        cases h13 : text.getD s 0 == 13 with
        | true => exact ⟨_, rfl⟩
        | false => exact ih _ _ (by omega)

theorem adm_find2 (text : Array Nat) : ∀ (n s : Nat), s + n = text.size → match adm s (text.toList.drop s) with
    | none => find2 s (text.toList.drop s) = none
    | some q => q < text.size ∧ (text.getD q 0 = 10 ∨ text.getD q 0 = 13) ∧ find2 s (text.toList.drop s) = (if (text.getD q 0 == 10) = true then some (q, q + 1) else if (text.getD (q + 1) 0 == 10) = true then some (q, q + 2) else some (q, q + 1)) := by
  intro n
  induction n with
  | zero => intro s h; rw [drop_end (by omega)]; rfl
  | succ n ih =>
    intro s h
    rw [drop_getD (by omega)]
    unfold adm find2
    cases h10 : text.getD s 0 == 10 with
    | true => exact ⟨by omega, .inl (by simpa using h10), by rw [h10]; rfl⟩
    | false =>
      cases h13 : text.getD s 0 == 13 with
      | true =>
        refine ⟨by omega, .inr (by simpa using h13), ?_⟩
        rw [h10]
        have hh : ((text.toList.drop (s + 1)).head? == some 10) = (text.getD (s + 1) 0 == 10) := by
          by_cases hl : s + 1 < text.size
          · rw [drop_getD hl]; rfl
          · rw [drop_end (by omega)]
            have : text.getD (s + 1) 0 = 0 := by simp [Array.getD, hl]
            rw [this]; rfl
        rw [hh]
        rfl
      | false => exact ih _ (by omega)

theorem search2 (text : Array Nat) (p : Nat) (hp : p ≤ text.size) :
    Leads 20 (forSearch code2 text 0 p text.size false) (find2 p (text.toList.drop p)) := by
  by_cases h : p = text.size
  · rw [drop_end (by omega)]
    have e : forSearch code2 text 0 p text.size false = _ := if_pos (by subst h; simp [header, code2, ops])
    rw [e]
    refine Leads.mono (N := 1) ?_ (by omega)
    exact .step rfl rfl (.here rfl)
  · have e : forSearch code2 text 0 p text.size false = _ := if_neg (by simp [header, code2, ops]; omega)
    rw [e]
    show Leads 20 (M.attemptFrom { code := code2, text := text, lim := text.size, start := p, lastStart := text.size, pc := 10, pos := p, handed := p, marks := #[], seen := ({} : Seen).add 14 } p true) _
    unfold M.attemptFrom
    rw [if_neg (by intro h; exact Bool.noConfusion (h : false = true))]
    have ha := adm_find2 text (text.size - p) p (by omega)
    obtain ⟨seen', hs⟩ := admitted2 (m := { code := code2, text := text, lim := text.size, start := p, lastStart := text.size, pc := 10, pos := p, handed := p, marks := #[], seen := ({} : Seen).add 14 }) (text := text) rfl rfl rfl (text.size + 1 - p) p (({} : Seen).add 14) (by omega)
    dsimp only
    rw [hs]
    cases hq : adm p (text.toList.drop p) with
    | none =>
      rw [hq] at ha
      dsimp only at ha
      rw [ha]
      refine Leads.mono (N := 1) ?_ (by omega)
      exact .step rfl rfl (.here rfl)
    | some q =>
      rw [hq] at ha
      dsimp only at ha
      rw [ha.2.2]
      exact start2 ha.1 ha.2.1
end Mine
end
section
namespace Mine
open PySem PySem.Sre

/-- what a substitution makes of a text from the place p on, by what a search finds -/
inductive Subs (find : Nat → Option (Nat × Nat)) (text : Array Nat) (repl : List Nat) : Nat → List Nat → Prop where
  | stop {p : Nat} : find p = none → Subs find text repl p (text.toList.drop p)
  | more {p s e : Nat} {r : List Nat} : find p = some (s, e) → p ≤ s → s < e → e ≤ text.size → Subs find text repl e r → Subs find text repl p ((text.extract p s).toList ++ repl ++ r)

/-- rows' ends made CR LF (b: behind a CR) -/
def nrm : Bool → List Nat → List Nat
  | _, [] => []
  | b, c :: r => if c = 10 then (if b = true then nrm false r else 13 :: 10 :: nrm false r) else if c = 13 then 13 :: 10 :: nrm true r else c :: nrm false r
/-- dots at rows' beginnings doubled -/
def dots : Bool → List Nat → List Nat
  | _, [] => []
  | b, c :: r => if (b && c == 46) = true then 46 :: 46 :: dots false r else c :: dots (c == 10) r

theorem extract_cons {text : Array Nat} {p s : Nat} (hp : p < s) (hs : s ≤ text.size) : (text.extract p s).toList = text.getD p 0 :: (text.extract (p + 1) s).toList := by
  have hl : p < text.size := by omega
  simp only [Array.toList_extract, List.extract_eq_take_drop]
  rw [drop_getD hl, show s - p = (s - (p + 1)) + 1 by omega, List.take_succ_cons]
theorem extract_nil {text : Array Nat} {p : Nat} : (text.extract p p).toList = [] := by simp

theorem nrm_cr {r : List Nat} (h : r.head? ≠ some 10) : nrm true r = nrm false r := by
  cases r with
  | nil => rfl
  | cons c r =>
    have : c ≠ 10 := fun e => h (by rw [e]; rfl)
    rw [nrm, nrm, if_neg this, if_neg this]

/-- a place found lies behind the start; ahead of it stands nothing that is changed -/
theorem find2_facts (text : Array Nat) : ∀ (n p : Nat), p + n = text.size → (find2 p (text.toList.drop p) = none ∧ nrm false (text.toList.drop p) = text.toList.drop p) ∨
    ∃ s e, find2 p (text.toList.drop p) = some (s, e) ∧ p ≤ s ∧ s < e ∧ e ≤ text.size ∧ nrm false (text.toList.drop p) = (text.extract p s).toList ++ [13, 10] ++ nrm false (text.toList.drop e) := by
  intro n
  induction n with
  | zero => intro p h; rw [drop_end (by omega)]; exact .inl ⟨rfl, rfl⟩
  | succ n ih =>
    intro p h
    have hp : p < text.size := by omega
    rw [drop_getD hp, find2, nrm]
    by_cases h10 : text.getD p 0 = 10
    · rw [if_pos (by rw [h10]; rfl), if_pos h10, if_neg Bool.false_ne_true]
      refine .inr ⟨p, p + 1, rfl, Nat.le_refl _, by omega, by omega, ?_⟩
      rw [extract_nil]; rfl
    · rw [if_neg (by simpa using h10), if_neg h10]
      by_cases h13 : text.getD p 0 = 13
      · rw [if_pos (by rw [h13]; rfl), if_pos h13]
        by_cases h2 : (text.toList.drop (p + 1)).head? = some 10
        · rw [if_pos (by rw [h2]; rfl)]
          have hl : p + 1 < text.size := by
            apply Classical.byContradiction
            intro hn
            rw [drop_end (by omega)] at h2
            cases h2
          refine .inr ⟨p, p + 2, rfl, Nat.le_refl _, by omega, by omega, ?_⟩
          rw [drop_getD hl] at h2 ⊢
          rw [extract_nil, nrm, if_pos (Option.some.inj h2), if_pos rfl]
          rfl
        · rw [if_neg (by simpa using h2), nrm_cr h2]
          refine .inr ⟨p, p + 1, rfl, Nat.le_refl _, by omega, by omega, ?_⟩
          rw [extract_nil]
          rfl
      · rw [if_neg (by simpa using h13), if_neg h13]
        rcases ih (p + 1) (by omega) with ⟨h1, h2⟩ | ⟨s, e, h1, a, b, c, d⟩
        · exact .inl ⟨h1, by rw [h2]⟩
        · refine .inr ⟨s, e, h1, by omega, b, c, ?_⟩
          rw [d, extract_cons (p := p) (s := s) (by omega) (by omega)]
          rfl

theorem subs2 (text : Array Nat) : ∀ (n p : Nat), p + n = text.size → Subs (fun p => find2 p (text.toList.drop p)) text [13, 10] p (nrm false (text.toList.drop p)) := by
  intro n
  induction n using Nat.strongRecOn with
  | ind n ih =>
    intro p h
    rcases find2_facts text n p h with ⟨h1, h2⟩ | ⟨s, e, h1, a, b, c, d⟩
    · rw [h2]
      exact .stop h1
    · rw [d]
      exact .more h1 a b c (ih (text.size - e) (by omega) e (by omega))

theorem find1_facts (text : Array Nat) : ∀ (n p : Nat), p + n = text.size → (find1 (bol text p) p (text.toList.drop p) = none ∧ dots (bol text p) (text.toList.drop p) = text.toList.drop p) ∨
    ∃ s e, find1 (bol text p) p (text.toList.drop p) = some (s, e) ∧ p ≤ s ∧ s < e ∧ e ≤ text.size ∧ dots (bol text p) (text.toList.drop p) = (text.extract p s).toList ++ [46, 46] ++ dots (bol text e) (text.toList.drop e) := by
  intro n
  induction n with
  | zero => intro p h; rw [drop_end (by omega)]; exact .inl ⟨rfl, rfl⟩
  | succ n ih =>
    intro p h
    have hp : p < text.size := by omega
    rw [drop_getD hp, find1, dots]
    have hb : bol text (p + 1) = (text.getD p 0 == 10) := by simp [bol]
    by_cases hc : (bol text p && text.getD p 0 == 46) = true
    · rw [if_pos hc, if_pos hc]
      refine .inr ⟨p, p + 1, rfl, Nat.le_refl _, by omega, by omega, ?_⟩
      have h46 : text.getD p 0 = 46 := by
        have := (Bool.and_eq_true _ _).mp hc
        simpa using this.2
      rw [extract_nil, hb, h46]; rfl
    · rw [if_neg hc, if_neg hc, ← hb]
      rcases ih (p + 1) (by omega) with ⟨h1, h2⟩ | ⟨s, e, h1, a, b, c, d⟩
      · exact .inl ⟨h1, by rw [h2]⟩
      · refine .inr ⟨s, e, h1, by omega, b, c, ?_⟩
        rw [d, extract_cons (p := p) (s := s) (by omega) (by omega)]
        rfl

theorem subs1 (text : Array Nat) : ∀ (n p : Nat), p + n = text.size → Subs (fun p => find1 (bol text p) p (text.toList.drop p)) text [46, 46] p (dots (bol text p) (text.toList.drop p)) := by
  intro n
  induction n using Nat.strongRecOn with
  | ind n ih =>
    intro p h
    rcases find1_facts text n p h with ⟨h1, h2⟩ | ⟨s, e, h1, a, b, c, d⟩
    · rw [h2]
      exact .stop h1
    · rw [d]
      exact .more h1 a b c (ih (text.size - e) (by omega) e (by omega))

theorem nrm_length : ∀ (l : List Nat) (b : Bool), (nrm b l).length ≤ 2 * l.length := by
  intro l
  induction l with
  | nil => intro b; simp [nrm]
  | cons c r ih =>
    intro b
    have h1 := ih false
    have h2 := ih true
    rw [nrm]
    (repeat' split) <;> simp <;> omega
theorem dots_length : ∀ (l : List Nat) (b : Bool), (dots b l).length ≤ 2 * l.length := by
  intro l
  induction l with
  | nil => intro b; simp [dots]
  | cons c r ih =>
    intro b
    have h1 := ih false
    have h2 := ih (c == 10)
    rw [dots]
    split <;> simp <;> omega
end Mine
end
section
open PySem PySem.W PyProof.Rows
namespace Mine
open Builtin Builtin.Re
theorem slot_sub : Slot "re.Pattern" "sub" "re.Pattern.sub" :=
  .of (owner := "re.Pattern") (n := "sub") (by rw [typeLookup_type, builtinLookup_eq_fast]; kernel_rfl) (by decide +kernel) (by decide +kernel) (by decide +kernel)
    (by first | exact .inl (by decide +kernel) | exact .inr (by decide +kernel)) (by rw [isSubtype_type]; kernel_rfl)
theorem type_sub : typeOf (.builtin "re.Pattern.sub") = pure (.type "method_descriptor") := by show builtinType _ = _; rw [builtinType_eq_fast]; kernel_rfl
theorem entry_sub : entryFor table "re.Pattern.sub" = some Builtin.«re.Pattern.sub» := entryFor_of_tree (by kernel_rfl)
theorem entry_loop : entryFor table "re.Pattern.sub.loop" = some Builtin.«re.Pattern.sub.loop» := entryFor_of_tree (by kernel_rfl)
theorem plain_loop : plainId "re.Pattern.sub.loop" = true := by decide +kernel
theorem pat_getattribute : typeLookup (.type "re.Pattern") "__getattribute__" = pure (some (.builtin "object.__getattribute__")) := by rw [typeLookup_type, builtinLookup_eq_fast]; kernel_rfl
theorem canon_pat_getattribute : (Manifest.canonical "object.__getattribute__" != "object.__getattribute__") = false := by decide +kernel
theorem pat_getattr_none : typeLookup (.type "re.Pattern") "__getattr__" = pure none := by rw [typeLookup_type, builtinLookup_eq_fast]; kernel_rfl
theorem str_call_none : typeLookup (.type "str") "__call__" = pure none := by rw [typeLookup_type, builtinLookup_eq_fast]; kernel_rfl
theorem args_sub (a b c : Value) : argsOk "re.Pattern.sub" ⟨[a, b, c], []⟩ := by
  unfold argsOk
  rw [signature?_of (id := "re.Pattern.sub") (n := ['b', 'u', 's']) (o := ['n', 'r', 'e', 't', 't', 'a', 'P', '.', 'e', 'r']) (rows := Manifest.sig_re_Pattern) (by kernel_rfl) (by kernel_rfl)]; kernel_rfl
end Mine
end
section
open PySem PySem.W PyProof.Rows
namespace Mine
open Builtin Builtin.Re

section
variable {M : Model} {A : Around} {E : Value → Shared → Prop} {s : Shared}

theorem EndsIn.some {m : Sre.M} {r : Option (Nat × Nat)} (h : EndsIn m r) : m.outcome.isSome = true := by
  cases r with
  | none => exact (congrArg Option.isSome h : m.outcome.isSome = _)
  | some se => exact (congrArg Option.isSome h.1 : m.outcome.isSome = _)

theorem wpAny_reDrive {r : Option (Nat × Nat)} {Q : Sre.M → Shared → Prop} (h : ∀ m', EndsIn m' r → Q m' s) :
    ∀ (turns N : Nat) (m : Sre.M), Leads N m r → N < 4 * turns → wpAny M A (reDrive turns m) Q E s := by
  intro turns
  induction turns with
  | zero => intro N m _ hN; omega
  | succ turns ih =>
    intro N m hL hN
    obtain ⟨k, hk, he⟩ := hL
    show wpAny M A (if (m.runFor 4).outcome.isSome = true then pure (m.runFor 4) else (do rule "sre.turn"; reDrive turns (m.runFor 4))) Q E s
    by_cases h4 : k ≤ 4
    · have e : m.runFor 4 = m.runFor k := by
        rw [show 4 = k + (4 - k) by omega, runFor_add, runFor_done he.some]
      rw [e, if_pos he.some]
      exact wpAny_pure (h _ he)
    · have e : m.runFor k = (m.runFor 4).runFor (k - 4) := by
        rw [← runFor_add]; congr 1; omega
      rw [e] at he
      split
      · rename_i h1
        rw [runFor_done h1] at he
        exact wpAny_pure (h _ he)
      · exact wpAny_bind (wpAny_rule (ih (N - 4) _ ⟨k - 4, by omega, he⟩ (by omega)))

theorem wpAny_rules {f : Nat → Bool} {tag : Nat → String} {Q : PUnit → Shared → Prop} (h : Q ⟨⟩ s) : ∀ (l : List Nat),
    wpAny M A (forIn l PUnit.unit (fun i (_ : PUnit) => do
      if f i then rule (tag i)
      pure (ForInStep.yield PUnit.unit))) Q E s := by
  intro l
  induction l with
  | nil => exact wpAny_pure h
  | cons a l ih =>
    rw [List.forIn_cons]
    refine wpAny_bind ?_
    show wpAny M A (if f a = true then (do rule (tag a); pure (ForInStep.yield PUnit.unit)) else pure (ForInStep.yield PUnit.unit)) _ _ _
    refine wpAny_ite ?_
    split
    · exact wpAny_bind (wpAny_rule (wpAny_pure ih))
    · exact wpAny_pure ih

theorem wpAny_reRunToEnd {N : Nat} {m : Sre.M} {r : Option (Nat × Nat)} {Q : Option Sre.M → Shared → Prop} (hL : Leads N m r) (hN : N < 2 ^ 60)
    (h : match r with | none => Q none s | some (b, e) => ∀ m' : Sre.M, m'.start = b → m'.handed = e → Q (some m') s) : wpAny M A (reRunToEnd m) Q E s := by
  unfold reRunToEnd
  refine wpAny_bind (wpAny_reDrive (r := r) (fun m' he => ?_) (2 ^ 64) N m hL (by omega))
  refine wpAny_bind (wpAny_rules ?_ _)
  cases r with
  | none =>
    have e : m'.outcome = some .failed := he
    rw [e]
    exact wpAny_pure h
  | some se =>
    obtain ⟨b, e⟩ := se
    have e' : m'.outcome = some .matched := he.1
    rw [e']
    exact wpAny_pure (h m' he.2.1 he.2.2)
end

/-- a compiled pattern without groups, for texts -/
def patObj (f0 f1 : Value) (c : Addr) : Obj := { cls := .type "re.Pattern", data := .fields #[f0, f1, .int 0 0, .none, .none, .ref c, .int 0 0] }
def codeObj (code : List Nat) : Obj := { cls := .type "tuple", data := .seq (code.map fun n : Nat => Value.int (n : Int) 0).toArray }

structure PatAt (h : Heap) (a : Addr) (code : Array Nat) : Prop where
  ex : ∃ f0 f1 c, h.get? a = some (patObj f0 f1 c) ∧ h.get? c = some (codeObj code.toList)

theorem raw_code (code : Array Nat) : (((code.toList.map fun n : Nat => Value.int (n : Int) 0).toArray).map reRawOf).map (·.toNat) = code := by
  cases code with
  | mk l =>
    simp only [List.map_toArray, List.map_map]
    congr 1
    have : ((fun x : Int => x.toNat) ∘ reRawOf ∘ fun n : Nat => Value.int (n : Int) 0) = _root_.id := by
      funext n; simp [reRawOf]
    rw [this, List.map_id]

section
variable {prog : Program} {w : World} {M : Model} {A : Around} {E : Value → Shared → Prop} {s : Shared}

def target (a : Addr) (x : Str) (t : Tok) (code : Array Nat) : ReTarget :=
  { pattern := .ref a, string := .str x t, code := code, text := x.cps, kind := 0, groups := 0, pos := 0, lim := x.cps.size }

theorem wpAny_reWholeTarget {a : Addr} {x : Str} {t : Tok} {code : Array Nat} {Q : ReTarget → Shared → Prop} (hp : PatAt s.heap a code) (h : Q (target a x t code) s) :
    wpAny M A (reWholeTarget (.ref a) (.str x t)) Q E s := by
  obtain ⟨f0, f1, c, ha, hc⟩ := hp.ex
  unfold reWholeTarget
  refine wpAny_bind (?_ : wpAny M A (fieldsOf (.ref a)) _ E s)
  unfold fieldsOf
  refine wpAny_bind (wpAny_load ha (wpAny_pure ?_))
  refine wpAny_bind (?_ : wpAny M A (reTextOf (.str x t)) _ E s)
  refine wpAny_pure (a := (x.cps, 0)) ?_
  show wpAny M A (do
    reNoCollectionInside (.str x t) 0
    pure { pattern := .ref a, string := .str x t, code := (← reRawItems (.ref c)).map (·.toNat), text := x.cps, kind := 0, groups := 0, pos := 0, lim := x.cps.size }) Q E s
  refine wpAny_bind (wpAny_pure ?_)
  refine wpAny_bind (?_ : wpAny M A (reRawItems (.ref c)) _ E s)
  unfold reRawItems
  refine wpAny_bind (wpAny_seqItems hc rfl (wpAny_pure ?_))
  refine wpAny_pure ?_
  dsimp only [Option.getD]
  rw [raw_code]
  exact h

theorem wpAny_push {D : Addr} {its : Array Value} {n : Nat} {x : Value} {h₀ : Heap} {L : Addr} {m : Str → Option Value} {news : List (Addr × Obj)} {Q : Unit → Shared → Prop}
    (F : Fr h₀ L s.heap m) (N : News h₀ L s.heap ((D, listOf its n) :: news)) (hlt : ∀ p ∈ news, p.1 < D)
    (h : ∀ h', Fr h₀ L h' m → News h₀ L h' ((D, listOf (its.push x) (n + 1)) :: news) → Q () { s with heap := h' }) (hsz : its.size ≤ sizeLine) :
    wpAny M A (updateSeq D (·.push x)) Q E s := by
  have ho := N.get (.head _)
  refine wpAny_updateSeq ho rfl (h _ (F.change (Heap.SameBut.update ..) (N _ (.head _)).2.1 (N _ (.head _)).2.2) (N.setHead (fun p hp => Nat.ne_of_lt (hlt p hp)) (Heap.SameBut.update ..) ?_)) hsz (by simp only [Array.size_push]; omega)
  rw [Heap.get?_update_self _ ho (by rw [mapSeq_push]; rfl), mapSeq_push]

theorem glued_fold (g : Str) (hg : g.cps = #[]) : ∀ (l : List Str) (acc : Array Nat), (l.foldl (fun acc p => acc ++ g.cps ++ p.cps) acc).toList = acc.toList ++ (l.map fun p => p.cps.toList).flatten := by
  intro l
  induction l with
  | nil => intro acc; simp
  | cons p l ih => intro acc; rw [List.foldl_cons, ih, hg]; simp
theorem joined_texts (g : Str) (hg : g.cps = #[]) (l : List Str) : Txt.join g l = ⟨((l.map fun p => p.cps.toList).flatten).toArray⟩ := by
  show (⟨(l.drop 1).foldl (fun acc p => acc ++ g.cps ++ p.cps) (l.headD Str.empty).cps⟩ : Str) = _
  congr 1
  apply Array.toList_inj.mp
  rw [glued_fold g hg]
  cases l with
  | nil => rfl
  | cons p l => simp
theorem sum_lengths (l : List Str) : (l.map (·.length)).sum = (l.map fun p => p.cps.toList).flatten.length := by
  induction l with
  | nil => rfl
  | cons p l ih => simp only [List.map_cons, List.sum_cons, List.flatten_cons, List.length_append, ih]; rfl

theorem strValues_push (l : List (Str × Tok)) (y : Str) (t : Tok) : (strValues l).toArray.push (.str y t) = (strValues (l ++ [(y, t)])).toArray := by
  simp [strValues]

/-- the loop's tree -/
def loopTree (a D : Addr) (x repl : Str) (tx tr : Tok) (n : Int) (p : Nat) : Sem Fin := do
  let t ← reWholeTarget (.ref a) (.str x tx)
  if ((0 : Int) == 0) = true then reLiteralCannotBeTurned (.str repl tr)
  match ← (if ((0 : Int) != 0 && decide (n ≥ 0)) = true then pure none else reNextFound t (p : Int).toNat false) with
  | some m =>
    if (p : Int).toNat < m.start then updateSeq D (·.push (← reSlice t.text t.kind (p : Int).toNat m.start))
    let item ← if ((0 : Int) == 0) = true then pure (.str repl tr) else do
        let found ← reNewMatch (.ref a) (.str x tx) t.groups 0 t.lim m
        holding [found] (if ((0 : Int) == 1) = true then call (.str repl tr) [found] else do reExpand (.str repl tr) (← reFound found))
    if item != .none then updateSeq D (·.push item)
    again (.builtin "re.Pattern.sub.loop" ⟨[(.ref a), (.str x tx), (.str repl tr), rawInt 0, rawInt 0, rawInt (n + 1), rawInt m.handed, rawInt m.handed, .bool (m.handed == m.start), .ref D, .bool false], []⟩)
  | none =>
    if (p : Int).toNat < t.lim then updateSeq D (·.push (← reSlice t.text t.kind (p : Int).toNat t.lim))
    let joiner ← reSlice t.text t.kind 0 0
    let text ← if ((← seqItems? (.ref D)).getD #[]).isEmpty then pure joiner
      else call (.builtin (if t.kind == 0 then "str.join" else "bytes.join")) [joiner, .ref D]
    if false = true then ret (← holding [text] do newTuple [text, ← mkInt n]) else ret text

def foundTree (a D : Addr) (x repl : Str) (tx tr : Tok) (n : Int) (p : Nat) (m : Sre.M) : Sem Fin := do
  if p < m.start then updateSeq D (·.push (← reSlice x.cps 0 p m.start))
  updateSeq D (·.push (.str repl tr))
  again (.builtin "re.Pattern.sub.loop" ⟨[(.ref a), (.str x tx), (.str repl tr), rawInt 0, rawInt 0, rawInt (n + 1), rawInt m.handed, rawInt m.handed, .bool (m.handed == m.start), .ref D, .bool false], []⟩)
def lastTree (D : Addr) (x : Str) (p : Nat) : Sem Fin := do
  if p < x.cps.size then updateSeq D (·.push (← reSlice x.cps 0 p x.cps.size))
  let joiner ← reSlice x.cps 0 0 0
  let text ← if ((← seqItems? (.ref D)).getD #[]).isEmpty then pure joiner
    else call (.builtin "str.join") [joiner, .ref D]
  ret text

theorem loop_open {a D : Addr} {x repl : Str} {tx tr : Tok} {n : Int} {p : Nat} {code : Array Nat} {Nn : Nat} {r : Option (Nat × Nat)} {Q : Fin → Shared → Prop}
    (hP : PatAt s.heap a code) (hL : Leads Nn (Sre.forSearch code x.cps 0 p x.cps.size false) r) (hNn : Nn < 2 ^ 60)
    (h : match r with | none => wpAny M A (lastTree D x p) Q E s | some (b, e) => ∀ m' : Sre.M, m'.start = b → m'.handed = e → wpAny M A (foundTree a D x repl tx tr n p m') Q E s) :
    wpAny M A (loopTree a D x repl tx tr n p) Q E s := by
  unfold loopTree
  refine wpAny_bind (wpAny_reWholeTarget hP ?_)
  show wpAny M A (reLiteralCannotBeTurned (.str repl tr) >>= _) Q E s
  refine wpAny_bind (wpAny_pure ?_)
  refine wpAny_bind (?_ : wpAny M A (reNextFound (target a x tx code) p false) _ E s)
  unfold reNextFound
  refine wpAny_reRunToEnd hL hNn ?_
  cases r with
  | none => exact h
  | some be => exact h

theorem wpAny_reSlice {y : Array Nat} {b e : Nat} {Q : Value → Shared → Prop} (hsz : y.size ≤ 2 ^ 20) (h : Q (.str ⟨y.extract b e⟩ s.toks) { s with toks := s.toks + 1 }) : wpAny M A (reSlice y 0 b e) Q E s := by
  refine wpAny_mkStr (x := ⟨y.extract b e⟩) h ?_
  show (y.extract b e).size ≤ sizeLine
  rw [Array.size_extract]
  unfold sizeLine
  omega

/-- the loop of a substitution, from the place p on; what lies behind is joined -/
theorem loop_rule {a : Addr} {x repl : Str} {tx tr : Tok} {code : Array Nat} {find : Nat → Option (Nat × Nat)} {h₀ : Heap} {L : Addr} {m : Str → Option Value} {news : List (Addr × Obj)}
    {Nn : Nat} {R : Result → Shared → Prop}
    (hpat : PatAt h₀ a code) (hfind : ∀ p ≤ x.cps.size, Leads Nn (Sre.forSearch code x.cps 0 p x.cps.size false) (find p)) (hNn : Nn < 2 ^ 60) :
    ∀ (p : Nat) (out : List Nat), Subs find x.cps repl.cps.toList p out → ∀ (n : Int) (t1 t2 t3 t4 t5 : Tok) (D : Addr) (pre : List (Str × Tok)) (k : Nat) (s : Shared),
      p ≤ x.cps.size → Fr h₀ L s.heap m → News h₀ L s.heap ((D, listOf (strValues pre).toArray k) :: news) → (∀ q ∈ news, q.1 < D) →
      (∀ t' h' k', Fr h₀ L h' m → News h₀ L h' news → R (.ok (.ret (.str ⟨((pre.map fun q => q.1.cps.toList).flatten ++ out).toArray⟩ t'))) { s with heap := h', toks := k' }) →
      (pre.map fun q => q.1.cps.toList).flatten.length + out.length ≤ 2 ^ 20 → pre.length ≤ 2 * p → x.cps.size ≤ 2 ^ 20 →
      codeAny (model prog w) A (.builtin "re.Pattern.sub.loop" ⟨[.ref a, .str x tx, .str repl tr, .int 0 t1, .int 0 t2, .int n t3, .int (p : Int) t4, .int (p : Int) t5, .bool false, .ref D, .bool false], []⟩) R s := by
  intro p out hS
  induction hS with
  | @stop p hq =>
    intro n t1 t2 t3 t4 t5 D pre k s hp F N hD hR hlen hpre hx
    refine codeAny_builtin entry_loop ?_
    rw [Around.under_plainId plain_loop]
    have hP : PatAt s.heap a code := by
      obtain ⟨f0, f1, c, ha, hc⟩ := hpat.ex
      exact ⟨f0, f1, c, F.keep _ _ ha, F.keep _ _ hc⟩
    show wpAny (model prog w) A.in1 (loopTree a D x repl tx tr n p) _ _ s
    refine loop_open hP (hfind p hp) hNn ?_
    rw [hq]
    show wpAny (model prog w) A.in1 (lastTree D x p) _ _ s
    have fin : ∀ (pre' : List (Str × Tok)) (k' : Nat) (s' : Shared), (∃ h1 t1, s' = { s with heap := h1, toks := t1 }) → (pre'.map fun q => q.1.cps.toList).flatten = (pre.map fun q => q.1.cps.toList).flatten ++ x.cps.toList.drop p →
        Fr h₀ L s'.heap m → News h₀ L s'.heap ((D, listOf (strValues pre').toArray k') :: news) → wpAny (model prog w) A.in1 (do
          let joiner ← reSlice x.cps 0 0 0
          let text ← if ((← seqItems? (.ref D)).getD #[]).isEmpty then pure joiner
            else call (.builtin "str.join") [joiner, .ref D]
          ret text) (fun fin s' => match fin with | .done f => R (.ok f) s' | .again c' => c'.quiet = true ∧ codeAny (model prog w) A c' R s') (fun e s' => R (.error e) s') s' := by
      rintro pre' k' s' ⟨h1, t1', rfl⟩ he F' N'
      refine wpAny_bind (wpAny_reSlice hx ?_)
      have hN : News h₀ L h1 news := fun q hq => N' q (.tail _ hq)
      refine wpAny_bind (wpAny_seqItems (N'.get (.head _)) rfl ?_)
      dsimp only
      refine wpAny_ite ?_
      have e0 : (x.cps.extract 0 0) = #[] := by simp
      split
      · rename_i hemp
        have hnil : pre' = [] := by
          cases pre' with
          | nil => rfl
          | cons q r => simp [strValues] at hemp
        refine wpAny_bind (wpAny_pure (wpAny_pure ?_))
        have := hR t1' h1 (t1' + 1) F' hN
        rw [← he, hnil] at this
        dsimp only
        rw [e0]
        exact this
      · refine wpAny_bind ?_
        refine SC.join (l := pre') (texts := pre'.map (·.1)) ⟨_, N'.get (.head _), rfl, k', rfl⟩ rfl ?_ ?_
        · refine joinOk_of ?_
          have hl := sum_lengths (pre'.map (·.1))
          have hz : Str.length (⟨x.cps.extract 0 0⟩ : Str) = 0 := by show (x.cps.extract 0 0).size = 0; rw [e0]; rfl
          rw [hz, hl, Nat.mul_zero, Nat.add_zero]
          have hl2 := congrArg List.length he
          rw [List.length_append] at hl2
          have : (pre'.map fun q => q.1.cps.toList).flatten.length ≤ 2 ^ 20 := by rw [hl2]; exact hlen
          rw [List.map_map]
          show (pre'.map fun q => q.1.cps.toList).flatten.length ≤ _
          omega
        · intro t' k''
          rw [joined_texts ⟨x.cps.extract 0 0⟩ e0, List.map_map]
          refine wpAny_pure ?_
          have := hR t' h1 k'' F' hN
          rw [← he] at this
          exact this
    unfold lastTree
    dsimp only
    refine wpAny_ite ?_
    split
    · rename_i hlt
      refine wpAny_bind (wpAny_reSlice hx ?_)
      refine wpAny_bind (wpAny_push F N hD (fun h' F' N' => ?_) ?_)
      · rw [strValues_push] at N'
        refine fin _ _ _ ⟨h', _, rfl⟩ ?_ F' N'
        rw [List.map_append, List.flatten_append]
        congr 1
        simp [Array.toList_extract, List.extract_eq_take_drop]
        rw [List.take_of_length_le]
        simp
      · simp only [strValues, List.size_toArray, List.length_map]
        unfold sizeLine; omega
    · rename_i hge
      refine fin pre k s ⟨s.heap, s.toks, rfl⟩ ?_ F N
      rw [drop_end (by omega), List.append_nil]
  | @more p b e r hq h1 h2 h3 hS ih =>
    intro n t1 t2 t3 t4 t5 D pre k s hp F N hD hR hlen hpre hx
    refine codeAny_builtin entry_loop ?_
    rw [Around.under_plainId plain_loop]
    have hP : PatAt s.heap a code := by
      obtain ⟨f0, f1, c, ha, hc⟩ := hpat.ex
      exact ⟨f0, f1, c, F.keep _ _ ha, F.keep _ _ hc⟩
    show wpAny (model prog w) A.in1 (loopTree a D x repl tx tr n p) _ _ s
    refine loop_open hP (hfind p hp) hNn ?_
    rw [hq]
    rintro m' rfl rfl
    show wpAny (model prog w) A.in1 (foundTree a D x repl tx tr n p m') _ _ s
    have fin : ∀ (pre' : List (Str × Tok)) (k' : Nat) (s' : Shared), (∃ h1 t1, s' = { s with heap := h1, toks := t1 }) → (pre'.map fun q => q.1.cps.toList).flatten = (pre.map fun q => q.1.cps.toList).flatten ++ (x.cps.extract p m'.start).toList → pre'.length ≤ pre.length + 1 →
        Fr h₀ L s'.heap m → News h₀ L s'.heap ((D, listOf (strValues pre').toArray k') :: news) → wpAny (model prog w) A.in1 (do
          updateSeq D (·.push (.str repl tr))
          again (.builtin "re.Pattern.sub.loop" ⟨[(.ref a), (.str x tx), (.str repl tr), rawInt 0, rawInt 0, rawInt (n + 1), rawInt m'.handed, rawInt m'.handed, .bool (m'.handed == m'.start), .ref D, .bool false], []⟩))
          (fun fin s' => match fin with | .done f => R (.ok f) s' | .again c' => c'.quiet = true ∧ codeAny (model prog w) A c' R s') (fun e s' => R (.error e) s') s' := by
      rintro pre' k' s' ⟨h1', t1', rfl⟩ he hl F' N'
      refine wpAny_bind (wpAny_push F' N' hD (fun h' F'' N'' => ?_) ?_)
      · rw [strValues_push] at N''
        refine wpAny_pure (And.intro (plainId_quiet plain_loop _) ?_)
        have hne : (m'.handed == m'.start) = false := by simp; omega
        rw [hne]
        refine ih (n + 1) 0 0 0 0 0 D _ _ _ h3 F'' N'' hD ?_ ?_ ?_ hx
        · intro t' h'' k'' Fx Nx
          have := hR t' h'' k'' Fx Nx
          rw [List.map_append, List.flatten_append, he]
          simpa using this
        · rw [List.map_append, List.flatten_append, he]
          simp only [List.length_append, List.map_cons, List.map_nil, List.flatten_cons, List.flatten_nil, List.length_nil, Nat.add_zero] at hlen ⊢
          omega
        · simp only [List.length_append, List.length_cons, List.length_nil]
          omega
      · simp only [strValues, List.size_toArray, List.length_map]
        unfold sizeLine; omega
    unfold foundTree
    dsimp only
    refine wpAny_ite ?_
    split
    · refine wpAny_bind (wpAny_reSlice hx ?_)
      refine wpAny_bind (wpAny_push F N hD (fun h' F' N' => ?_) ?_)
      · rw [strValues_push] at N'
        refine fin _ _ _ ⟨h', _, rfl⟩ ?_ ?_ F' N'
        · rw [List.map_append, List.flatten_append]; simp
        · simp
      · simp only [strValues, List.size_toArray, List.length_map]
        unfold sizeLine; omega
    · rename_i hge
      have e0 : m'.start = p := by omega
      refine fin pre k s ⟨s.heap, s.toks, rfl⟩ ?_ (by omega) F N
      rw [e0, extract_nil, List.append_nil]
end
end Mine
end
section
open PySem PySem.W PyProof.Rows
namespace Mine
open Builtin Builtin.Re

section
variable {prog : Program} {w : World} {A : Around} {E : Value → Shared → Prop} {s : Shared} {h₀ : Heap} {L : Addr} {m : Str → Option Value} {news : List (Addr × Obj)}

theorem named_sub (a b : Value) : reNamed "re.Pattern.sub" "sub" ["repl", "string", "count"] 2 [a, b] [] = pure [some a, some b, none] := rfl

theorem sub_rule {a : Addr} {x repl : Str} {tx tr : Tok} {code : Array Nat} {find : Nat → Option (Nat × Nat)} {Nn : Nat} {out : List Nat} {Q : Value → Shared → Prop}
    (F : Fr h₀ L s.heap m) (N : News h₀ L s.heap news) (hpat : PatAt h₀ a code)
    (hfind : ∀ p ≤ x.cps.size, Leads Nn (Sre.forSearch code x.cps 0 p x.cps.size false) (find p)) (hNn : Nn < 2 ^ 60)
    (hS : Subs find x.cps repl.cps.toList 0 out) (hlit : repl.cps.contains 92 = false) (hx : x.cps.size ≤ 2 ^ 20) (ho : out.length ≤ 2 ^ 20)
    (h : ∀ t' h' k', Fr h₀ L h' m → News h₀ L h' news → Q (.str ⟨out.toArray⟩ t') { s with heap := h', toks := k' }) :
    wpAny (model prog w) A (call (.builtin "re.Pattern.sub") [.ref a, .str repl tr, .str x tx]) Q E s := by
  have hP : PatAt s.heap a code := by
    obtain ⟨f0, f1, c, ha, hc⟩ := hpat.ex
    exact ⟨f0, f1, c, F.keep _ _ ha, F.keep _ _ hc⟩
  have hT : s.TypeIs (.ref a) "re.Pattern" := by
    obtain ⟨f0, f1, c, ha, hc⟩ := hP.ex
    exact ⟨_, ha, rfl⟩
  refine wpAny_call (codeAny_call_builtin slot_sub.plain entry_sub (slot_sub.check _ _ _ _ _ _ _ _ hT (args_sub _ _ _) ?_))
  show wpAny _ _ (reSubstitute "re.Pattern.sub" "sub" false ⟨[.ref a, .str repl tr, .str x tx], []⟩) _ _ s
  unfold reSubstitute
  dsimp only
  rw [named_sub]
  refine wpAny_bind (wpAny_pure ?_)
  dsimp only
  refine wpAny_bind (wpAny_pure ?_)
  refine wpAny_bind (wpAny_specialOf (typeIs_str _ _ _) str_call_none ?_)
  dsimp only [Option.isSome]
  rw [if_neg Bool.false_ne_true]
  refine wpAny_bind (wpAny_pure ?_)
  dsimp only
  refine wpAny_bind (wpAny_pure ?_)
  rw [if_neg Bool.false_ne_true, if_pos (by rw [hlit]; rfl)]
  refine wpAny_bind (wpAny_pure ?_)
  refine wpAny_bind (wpAny_holding (wpAny_reWholeTarget hP ?_))
  refine wpAny_ite ?_
  dsimp only
  rw [if_neg (by intro h1; cases h1)]
  refine wpAny_bind (newList_K F N (fun D h' F' N' hD => ?_) (Nat.zero_le _))
  refine wpAny_pure (And.intro (plainId_quiet plain_loop _) ?_)
  refine loop_rule (news := news) hpat hfind hNn 0 out hS 0 0 0 0 0 0 D [] 0 _ (Nat.zero_le _) F' N' hD ?_ ?_ (Nat.zero_le _) hx
  · intro t' h'' k' Fx Nx
    exact h t' h'' k' Fx Nx
  · simpa using ho

theorem method_sub {a : Addr} {code : Array Nat} {pl : Sem Bool} {Q : Value × List Value → Shared → Prop} (hP : PatAt s.heap a code)
    (h : Q (.builtin "re.Pattern.sub", [.ref a]) s) : wpAny (model prog w) A (getMethod (.ref a) "sub" pl) Q E s := by
  obtain ⟨f0, f1, c, ho, hc⟩ := hP.ex
  have hT : s.TypeIs (.ref a) "re.Pattern" := ⟨_, ho, rfl⟩
  unfold getMethod
  refine wpAny_bind (wpAny_specialOf hT pat_getattribute ?_)
  show wpAny _ A (if (Manifest.canonical "object.__getattribute__" != "object.__getattribute__") = true then _ else _) Q E s
  rw [canon_pat_getattribute, if_neg Bool.false_ne_true]
  refine wpAny_bind (wpAny_specialOf hT pat_getattr_none ?_)
  refine wpAny_bind (wpAny_specialOf hT slot_sub.lookup ?_)
  refine wpAny_bind (wpAny_of_eq type_sub ?_)
  refine wpAny_bind (wpAny_load ho ?_)
  exact wpAny_bind (wpAny_rule (wpAny_pure h))

/-- rows' ends made CR LF -/
theorem sub_ends {a : Addr} {x repl : Str} {tx tr : Tok} {Q : Value → Shared → Prop} (F : Fr h₀ L s.heap m) (N : News h₀ L s.heap news) (hpat : PatAt h₀ a code2) (hr : repl = ⟨#[13, 10]⟩)
    (hx : x.cps.size ≤ 2 ^ 16)
    (h : ∀ t' h' k', Fr h₀ L h' m → News h₀ L h' news → Q (.str ⟨(nrm false x.cps.toList).toArray⟩ t') { s with heap := h', toks := k' }) :
    wpAny (model prog w) A (call (.builtin "re.Pattern.sub") [.ref a, .str repl tr, .str x tx]) Q E s := by
  subst hr
  refine sub_rule (Nn := 20) F N hpat (fun p hp => search2 x.cps p hp) (by omega) (out := nrm false x.cps.toList) (subs2 x.cps x.cps.size 0 (by omega)) (by decide +kernel) (by omega) ?_ h
  have := nrm_length x.cps.toList false
  simp only [Array.length_toList] at this
  omega
/-- dots at rows' beginnings doubled -/
theorem sub_dots {a : Addr} {x repl : Str} {tx tr : Tok} {Q : Value → Shared → Prop} (F : Fr h₀ L s.heap m) (N : News h₀ L s.heap news) (hpat : PatAt h₀ a code1) (hr : repl = ⟨#[46, 46]⟩)
    (hx : x.cps.size ≤ 2 ^ 17)
    (h : ∀ t' h' k', Fr h₀ L h' m → News h₀ L h' news → Q (.str ⟨(dots true x.cps.toList).toArray⟩ t') { s with heap := h', toks := k' }) :
    wpAny (model prog w) A (call (.builtin "re.Pattern.sub") [.ref a, .str repl tr, .str x tx]) Q E s := by
  subst hr
  refine sub_rule (Nn := 4 * x.cps.size + 7) F N hpat (fun p hp => search1 x.cps p hp) (by omega) (out := dots true x.cps.toList) (subs1 x.cps x.cps.size 0 (by omega)) (by decide +kernel) (by omega) ?_ h
  have := dots_length x.cps.toList true
  simp only [Array.length_toList] at this
  omega
end
end Mine
end
section
open PySem PySem.W PyProof.Rows
namespace Mine
set_option maxRecDepth 100000 in
set_option maxHeartbeats 8000000 in
open_top hd for PySem.Challenge.rw_pg0011_01
end Mine
end
section
open PySem PySem.W PyProof.Rows
namespace Mine

theorem pat1_of {w : World} {h : Heap} (X : (hd.heap_39 w.params).In h) : PatAt h 36 code1 := ⟨_, _, 35, X 36 _ rfl, X 35 _ rfl⟩
theorem pat2_of {w : World} {h : Heap} (X : (hd.heap_39 w.params).In h) : PatAt h 41 code2 := ⟨_, _, 40, X 41 _ rfl, X 40 _ rfl⟩

/-- what a def of the text hands back to whoever calls it (d frames and u units are at hand) -/
abbrev Clm (w : World) (mean : ExcName → Option Value) (mg mb : Str → Option Value) (d u : Nat) (f : Addr) (news : List (Addr × Obj)) (pre : Prop) (vs : List Value) (R : Tok → Value) : Prop :=
  ∀ (dp un : Nat) (gd : Option (List Code)) (cn : Str) (cs : Scope) (a : Addr) (ccd : Value) (cl : List (Str × Addr)) (outer : List Env) (A₀ : Around) (base h₀ : Heap) (L : Addr) (m : Str → Option Value) (s : Shared) (Q E : Value → Shared → Prop),
    Below A₀ base outer h₀ → Fr h₀ L s.heap m → (hd.heap_39 w.params).In h₀ → News h₀ L s.heap news → Top hd.view_39 (looseW hd.view_39 [Str.ofString "_twin_re_1", Str.ofString "_twin_re_2"]) mean mg mb h₀ → cs.kind = .function →
    pre → dp + d < recursionLimit → un + u < cLine → CbRet h₀ L m news s Q R →
      wpAny (model PySem.Challenge.rw_pg0011_01.row.prog w) (ktrTop dp un gd cn cs L a ccd cl outer) (call (.ref f) vs) Q E s

def quoteL (l : List Nat) : List Nat := dots true (nrm false l)

theorem crlf_is : Str.ofString "\r\n" = ⟨#[13, 10]⟩ := by decide +kernel
theorem dots_is : Str.ofString ".." = ⟨#[46, 46]⟩ := by decide +kernel
section
variable {prog : Program} {w : World} {A : Around} {E : Value → Shared → Prop} {s : Shared} {h₀ : Heap} {L : Addr} {m : Str → Option Value} {news : List (Addr × Obj)}
theorem meth36 {pl : Sem Bool} {Q : Value × List Value → Shared → Prop} (F : Fr h₀ L s.heap m) (X : (hd.heap_39 w.params).In h₀) (h : Q (.builtin "re.Pattern.sub", [.ref 36]) s) : wpAny (model prog w) A (getMethod (.ref 36) (Str.ofString "sub") pl) Q E s :=
  method_sub (pat1_of (X.keeps F.keep)) h
theorem meth41 {pl : Sem Bool} {Q : Value × List Value → Shared → Prop} (F : Fr h₀ L s.heap m) (X : (hd.heap_39 w.params).In h₀) (h : Q (.builtin "re.Pattern.sub", [.ref 41]) s) : wpAny (model prog w) A (getMethod (.ref 41) (Str.ofString "sub") pl) Q E s :=
  method_sub (pat2_of (X.keeps F.keep)) h
theorem call36 {x : Str} {tx tr : Tok} {Q : Value → Shared → Prop} (F : Fr h₀ L s.heap m) (N : News h₀ L s.heap news) (X : (hd.heap_39 w.params).In h₀) (hx : x.cps.size ≤ 2 ^ 17)
    (h : ∀ t' h' k', Fr h₀ L h' m → News h₀ L h' news → Q (.str ⟨(dots true x.cps.toList).toArray⟩ t') { s with heap := h', toks := k' }) :
    wpAny (model prog w) A (call (.builtin "re.Pattern.sub") [.ref 36, .str (Str.ofString "..") tr, .str x tx]) Q E s :=
  sub_dots F N (pat1_of X) dots_is hx h
theorem call41 {x : Str} {tx tr : Tok} {Q : Value → Shared → Prop} (F : Fr h₀ L s.heap m) (N : News h₀ L s.heap news) (X : (hd.heap_39 w.params).In h₀) (hx : x.cps.size ≤ 2 ^ 16)
    (h : ∀ t' h' k', Fr h₀ L h' m → News h₀ L h' news → Q (.str ⟨(nrm false x.cps.toList).toArray⟩ t') { s with heap := h', toks := k' }) :
    wpAny (model prog w) A (call (.builtin "re.Pattern.sub") [.ref 41, .str (Str.ofString "\r\n") tr, .str x tx]) Q E s :=
  sub_ends F N (pat2_of X) crlf_is hx h
end
theorem nrm_size {x : Str} (h : x.cps.size ≤ 2 ^ 16) : (⟨(nrm false x.cps.toList).toArray⟩ : Str).cps.size ≤ 2 ^ 17 := by
  have := nrm_length x.cps.toList false
  simp only [Array.length_toList] at this
  show (nrm false x.cps.toList).toArray.size ≤ _
  rw [List.size_toArray]
  omega
local macro_rules | `(tactic| walk_at "getMethod ref") => `(tactic| (k_here; k_dflt (first | (refine' meth36 ?k1 ?k2 ?_; (case k1 => k_asm); (case k2 => k_asm); k_whole) | (refine' meth41 ?k1 ?k2 ?_; (case k1 => k_asm); (case k2 => k_asm); k_whole))))
local macro_rules | `(tactic| walk_at "call builtin:re.Pattern.sub") => `(tactic| (k_here; k_dflt (first
  | (refine' call36 ?k1 ?k2 ?k3 ?k4 ?_; (case k1 => k_asm); (case k2 => k_asm); (case k3 => k_asm); (case k4 => exact nrm_size (by assumption)); k_whole; intro t' h' k' F' N')
  | (refine' call41 ?k1 ?k2 ?k3 ?k4 ?_; (case k1 => k_asm); (case k2 => k_asm); (case k3 => k_asm); (case k4 => assumption); k_whole; intro t' h' k' F' N'))))
set_option maxHeartbeats 4000000 in
theorem quote_claim (w : World) (mean : ExcName → Option Value) (mg mb : Str → Option Value) (news : List (Addr × Obj)) (x : Str) (t : Tok) :
    Clm w mean mg mb 2 20 48 news (x.cps.size ≤ 2 ^ 16) [.str x t] (fun t => .str ⟨(quoteL x.cps.toList).toArray⟩ t) := by
  unfold Clm
  k_fill
  dsimp only [CbRet]; intros; rename_i hret
  w_top off
  k_with_none
  refine wpAny_call ?_
  k_dflt cell_enter
  k_steps
  all_goals cb_end hret
end Mine
end
section
open PySem
namespace Mine
theorem runs_toks {M : Model} {Γ : Ctx} {p : Pos} {t : Sem PySem.Fin} {fs : List PySem.Frame} {s s' : Shared} {e : End} (h : Runs M Γ p t fs s e s') : s.toks ≤ s'.toks := by
  induction h with
  | done | raise | yield => exact Nat.le_refl _
  | again _ _ ih | rule _ ih | «at» _ ih | load _ _ ih | update _ _ ih | loadIfAlive _ ih | point _ ih | alloc _ ih | ask _ ih | choose _ _ ih | os _ ih | handled _ ih | genState _ _ ih | stack _ ih | thread _ ih | newGen _ ih => exact ih
  | fresh _ ih => exact Nat.le_trans (Nat.le_succ _) ih
  | call _ _ ih₁ ih₂ => exact Nat.le_trans ih₁ ih₂
  | callSusp _ ih => exact ih
  | resumeFresh _ _ _ _ ih₁ ih₂ => exact Nat.le_trans ih₁ ih₂
  | resumeSuspended _ _ _ _ ih₁ ih₂ => exact Nat.le_trans ih₁ ih₂
  | resumeJustStarted _ _ _ ih | resumeThrowFresh _ _ ih | resumeRunning _ _ ih | resumeFinished _ _ ih => exact ih
  | segRet _ _ ih₁ ih₂ => exact Nat.le_trans ih₁ ih₂
  | segGen _ _ ih₁ ih₂ => exact Nat.le_trans ih₁ ih₂
  | segSuspOut _ _ ih => exact ih
  | segSuspGen _ _ _ _ ih₁ ih₂ => exact Nat.le_trans ih₁ ih₂

theorem wakes_toks {M : Model} {Γ : Ctx} {p : Pos} {g : Nat} {r : Resume} {s s' : Shared} {res : GenResult} (h : Wakes M Γ p g r s res s') : s.toks ≤ s'.toks := by
  unfold Wakes at h
  split at h
  · exact h.elim
  · split at h
    · obtain ⟨e₁, s₁, hr, _, _, rfl⟩ := h
      exact (runs_toks hr : _)
    · rw [h.2]; exact Nat.le_refl _
    · rw [h.2]; exact Nat.le_refl _
  · obtain ⟨e₁, s₁, hr, _, _, rfl⟩ := h
    exact (runs_toks hr : _)
  · rw [h.2]; exact Nat.le_refl _
  · rw [h.2]; exact Nat.le_refl _

theorem wp_toks {α : Type} {M : Model} {Γ : Ctx} {t : Sem α} {Q : α → Pos → Shared → Prop} {E : Value → Pos → Shared → Prop} (k : Nat) {p : Pos} {s : Shared} (hk : k ≤ s.toks)
    (h : Sem.wp M Γ t (fun a p' s' => k ≤ s'.toks → Q a p' s') (fun e p' s' => k ≤ s'.toks → E e p' s') p s) : Sem.wp M Γ t Q E p s := by
  induction t generalizing p s with
  | pure a => exact h hk
  | raise e => exact h hk
  | unsupported | finish | yield | fork | await | register => exact h
  | rule _ _ ih | «at» _ _ ih | alloc _ _ ih | loadIfAlive _ _ ih | point _ _ ih | ask _ ih | os _ _ _ ih | handled _ _ ih | newGen _ _ ih | stack _ ih | thread _ ih => exact ih _ hk h
  | fresh _ ih => exact ih _ (Nat.le_succ_of_le hk) h
  | load _ _ _ ih | genState _ _ ih => obtain ⟨o, ho, h⟩ := h; exact ⟨o, ho, ih _ hk h⟩
  | update _ _ _ _ ih | choose _ _ _ ih => obtain ⟨ha, h⟩ := h; exact ⟨ha, ih _ hk h⟩
  | call _ _ _ _ _ ih =>
    obtain ⟨r, s', hr, h⟩ := h
    exact ⟨r, s', hr, ih _ (Nat.le_trans hk (runs_toks hr)) h⟩
  | resume _ _ _ _ ih =>
    obtain ⟨res, s', hw, h⟩ := h
    exact ⟨res, s', hw, ih _ (Nat.le_trans hk (wakes_toks hw)) h⟩

/-- the counter of made things never falls -/
theorem wpAny_toks {α : Type} {M : Model} {A : Around} {t : Sem α} {Q : α → Shared → Prop} {E : Value → Shared → Prop} {s : Shared}
    (h : wpAny M A t (fun a s' => s.toks ≤ s'.toks → Q a s') (fun e s' => s.toks ≤ s'.toks → E e s') s) : wpAny M A t Q E s :=
  fun Γ p hΓ => wp_toks s.toks (Nat.le_refl _) (h Γ p hΓ)
end Mine
end
section
open PySem
namespace Mine
open Builtin Builtin.Str StrLaws

/-- the places found from i on, n of them looked at, behind the place a -/
def occF (x y : Str) : (n i a : Nat) → List Nat
  | 0, _, _ => []
  | n + 1, i, a => if (a ≤ i ∧ i + y.length ≤ x.length) ∧ subAt x y i = true then i :: occF x y n (i + 1) (i + y.length) else occF x y n (i + 1) a

theorem occF_is (x y : Str) : ∀ (n i a : Nat) (acc : Array Nat), i + n = x.length + 1 → acc.size ≤ i →
    (forIn (List.range' i n) (acc, a) (occBody x y x.length (x.length + 1))).run.fst.toList = acc.toList ++ occF x y n i a := by
  intro n
  induction n with
  | zero => intro i a acc _ _; simp [occF]
  | succ n ih =>
    intro i a acc h hs
    rw [List.range'_succ, List.forIn_cons, occF]
    unfold occBody
    have hlim : acc.size < x.length + 1 := by omega
    by_cases hc : (a ≤ i ∧ i + y.length ≤ x.length) ∧ subAt x y i = true
    · rw [if_pos hc, if_pos ⟨⟨⟨hlim, hc.1.1⟩, hc.1.2⟩, hc.2⟩]
      show (forIn (List.range' (i + 1) n) (acc.push i, i + y.length) (occBody x y x.length (x.length + 1))).run.fst.toList = _
      rw [ih (i + 1) (i + y.length) (acc.push i) (by omega) (by simp; omega)]
      simp
    · rw [if_neg hc, if_neg (fun h => hc ⟨⟨h.1.1.2, h.1.2⟩, h.2⟩)]
      show (forIn (List.range' (i + 1) n) (acc, a) (occBody x y x.length (x.length + 1))).run.fst.toList = _
      exact ih (i + 1) a acc (by omega) (by omega)

theorem occ_occF (x y : Str) : occurrences x y 0 x.length (x.length + 1) = occF x y (x.length + 1) 0 0 := by
  rw [occ_eq]
  have := occF_is x y (x.length + 1) 0 0 #[] (by omega) (Nat.le_refl _)
  simpa using this

/-- a text with each y made z, k signs to be skipped -/
def rep (y z : List Nat) : Nat → List Nat → List Nat
  | _, [] => []
  | 0, c :: r => if y.isPrefixOf (c :: r) = true then z ++ rep y z (y.length - 1) r else c :: rep y z 0 r
  | k + 1, _ :: r => rep y z k r

theorem prefix_is (T y : List Nat) (i : Nat) (hy : 1 ≤ y.length) : (i + y.length ≤ T.length ∧ ((T.drop i).take y.length == y) = true) ↔ y.isPrefixOf (T.drop i) = true := by
  rw [List.isPrefixOf_iff_prefix]
  constructor
  · rintro ⟨_, h⟩
    have e := eq_of_beq h
    exact ⟨(T.drop i).drop y.length, by conv => lhs; rw [← e]
                                        rw [List.length_take]
                                        have : min y.length (T.drop i).length = y.length := by
                                          have := congrArg List.length e
                                          rw [List.length_take] at this
                                          exact this
                                        rw [this]; exact List.take_append_drop _ _⟩
  · rintro ⟨r, h⟩
    have hl := congrArg List.length h
    simp only [List.length_append, List.length_drop] at hl
    by_cases hi : i ≤ T.length
    · refine ⟨by omega, ?_⟩
      rw [← h]; simp
    · rw [List.drop_eq_nil_of_le (by omega)] at h ⊢
      have : y = [] := by cases y with | nil => rfl | cons a b => cases h
      subst this
      cases hy

theorem take_snoc_drop (T : List Nat) {a i : Nat} (hai : a ≤ i) (hi : i < T.length) : (T.drop a).take (i + 1 - a) = (T.drop a).take (i - a) ++ [T.getD i 0] := by
  rw [show i + 1 - a = (i - a) + 1 by omega, List.take_add_one]
  congr 1
  rw [List.getElem?_drop, show a + (i - a) = i by omega, List.getElem?_eq_getElem hi]
  simp [List.getD, List.getElem?_eq_getElem hi]

theorem drop_cons (T : List Nat) {i : Nat} (hi : i < T.length) : T.drop i = T.getD i 0 :: T.drop (i + 1) := by
  rw [List.drop_eq_getElem_cons hi]
  simp [List.getD, List.getElem?_eq_getElem hi]

theorem join_cons_cps (z p : Str) {l : List Str} (h : ∃ q r, l = q :: r) : (Str.join z (p :: l)).cps.toList = p.cps.toList ++ z.cps.toList ++ (Str.join z l).cps.toList := by
  obtain ⟨q, r, rfl⟩ := h
  show (p ++ z ++ Str.join z (q :: r)).cps.toList = _
  simp [Str.cps_append]

theorem parts_rep (x y z : Str) (hy : 1 ≤ y.length) : ∀ (n i a : Nat), i + n = x.length + 1 → a ≤ x.length →
    (Str.join z (partsFrom x y.length a (occF x y n i a))).cps.toList =
      if a ≤ i then (x.cps.toList.drop a).take (i - a) ++ rep y.cps.toList z.cps.toList 0 (x.cps.toList.drop i) else rep y.cps.toList z.cps.toList (a - i) (x.cps.toList.drop i) := by
  have hn : x.cps.toList.length = x.length := by simp [Str.length]
  have hyl : y.cps.toList.length = y.length := by simp [Str.length]
  intro n
  induction n with
  | zero =>
    intro i a h ha
    rw [if_pos (by omega)]
    show (strSub x a x.length).cps.toList = _
    rw [strSub_toList, List.drop_eq_nil_of_le (as := x.cps.toList) (i := i) (by omega)]
    rw [List.take_of_length_le (by rw [List.length_drop]; omega), List.take_of_length_le (by rw [List.length_drop]; omega)]
    simp [rep]
  | succ n ih =>
    intro i a h ha
    rw [occF]
    by_cases hc : (a ≤ i ∧ i + y.length ≤ x.length) ∧ subAt x y i = true
    · rw [if_pos hc, if_pos hc.1.1]
      have hpre : y.cps.toList.isPrefixOf (x.cps.toList.drop i) = true := by
        refine (prefix_is _ _ _ (by omega)).mp ⟨by omega, ?_⟩
        have h2 := hc.2
        rw [subAt_eq] at h2
        rw [hyl]; exact h2
      have hlt : i < x.cps.toList.length := by omega
      show (Str.join z (strSub x a i :: partsFrom x y.length (i + y.length) (occF x y n (i + 1) (i + y.length)))).cps.toList = _
      rw [join_cons_cps z _ (partsFrom_ne ..), ih (i + 1) (i + y.length) (by omega) hc.1.2, strSub_toList]
      rw [drop_cons _ hlt] at hpre ⊢
      rw [rep, if_pos hpre, List.append_assoc]
      congr 1
      congr 1
      rw [hyl]
      by_cases h1 : y.length = 1
      · rw [h1, if_pos (Nat.le_refl _), Nat.sub_self, List.take_zero]; rfl
      · rw [if_neg (by omega)]
        congr 1
        omega
    · rw [if_neg hc, ih (i + 1) a (by omega) ha]
      by_cases hai : a ≤ i
      · rw [if_pos hai, if_pos (by omega)]
        by_cases hlt : i < x.cps.toList.length
        · have hpre : ¬ y.cps.toList.isPrefixOf (x.cps.toList.drop i) = true := by
            intro hp
            obtain ⟨h1, h2⟩ := (prefix_is _ _ _ (by omega)).mpr hp
            refine hc ⟨⟨hai, by omega⟩, ?_⟩
            rw [subAt_eq, ← hyl]; exact h2
          rw [take_snoc_drop _ hai hlt]
          rw [drop_cons _ hlt] at hpre ⊢
          rw [rep, if_neg hpre]
          simp
        · rw [List.drop_eq_nil_of_le (as := x.cps.toList) (i := i) (by omega), List.drop_eq_nil_of_le (as := x.cps.toList) (i := i + 1) (by omega)]
          rw [List.take_of_length_le (by rw [List.length_drop]; omega), List.take_of_length_le (by rw [List.length_drop]; omega)]
      · rw [if_neg hai]
        have hlt : i < x.cps.toList.length := by omega
        rw [drop_cons _ hlt, show a - i = (a - (i + 1)) + 1 by omega, rep]
        split
        · have : a = i + 1 := by omega
          subst this
          simp
        · rfl

theorem replace_rep (x y z : Str) (hy : 1 ≤ y.length) : (Txt.replace x y z).cps.toList = rep y.cps.toList z.cps.toList 0 x.cps.toList := by
  have h := parts_rep x y z hy (x.length + 1) 0 0 (by omega) (Nat.zero_le _)
  rw [if_pos (Nat.le_refl _), Nat.sub_self, List.take_zero, List.nil_append, List.drop_zero] at h
  unfold Txt.replace
  have hy0 : (y.length == 0) = false := by simp; omega
  rw [occ_occF, hy0, Bool.false_and, Bool.or_false]
  split
  · rename_i he
    have : occF x y (x.length + 1) 0 0 = [] := by simpa using he
    rw [this] at h
    rw [← h]
    show _ = (strSub x 0 x.length).cps.toList
    rw [sub_whole]
  · rw [glued_eq_join, partsBetween_eq, h]

/-- a word as rows with dots doubled, as it is sent -/
def encQ (l : List Nat) : List Nat := l.flatMap fun c => if c = 76 then [13, 10, 46, 46] else [46]
def encL (e l : List Nat) : List Nat := l.flatMap fun c => if c = 76 then e ++ [46] else [46]
/-- a word sent -/
def sentL (l : List Nat) : List Nat := l.flatMap fun c => if c = 76 then [76, 83] else [83]

theorem encQ_cons (c : Nat) (l : List Nat) : encQ (c :: l) = (if c = 76 then [13, 10, 46, 46] else [46]) ++ encQ l := by simp [encQ]
theorem encL_cons (e : List Nat) (c : Nat) (l : List Nat) : encL e (c :: l) = (if c = 76 then e ++ [46] else [46]) ++ encL e l := by simp [encL]
theorem sentL_cons (c : Nat) (l : List Nat) : sentL (c :: l) = (if c = 76 then [76, 83] else [83]) ++ sentL l := by simp [sentL]
def midL (l : List Nat) : List Nat := l.flatMap fun c => if c = 76 then [76, 46] else [46]
theorem midL_cons (c : Nat) (l : List Nat) : midL (c :: l) = (if c = 76 then [76, 46] else [46]) ++ midL l := by simp [midL]

theorem rep_one (l : List Nat) : rep [13, 10, 46] [76] 0 (encQ l) = midL l := by
  induction l with
  | nil => rfl
  | cons c l ih =>
    rw [encQ_cons, midL_cons]
    split
    · simp [rep, List.isPrefixOf, ih]
    · simp [rep, List.isPrefixOf, ih]
theorem rep_two (l : List Nat) : rep [46] [83] 0 (midL l) = sentL l := by
  induction l with
  | nil => rfl
  | cons c l ih =>
    rw [midL_cons, sentL_cons]
    split
    · simp [rep, List.isPrefixOf, ih]
    · simp [rep, List.isPrefixOf, ih]

theorem nrm_enc (e : List Nat) (he : e = [10] ∨ e = [13] ∨ e = [13, 10]) (l : List Nat) : nrm false (encL e l) = encL [13, 10] l := by
  induction l with
  | nil => rfl
  | cons c l ih =>
    rw [encL_cons, encL_cons]
    split
    · rcases he with rfl | rfl | rfl <;> simp [nrm, ih]
    · simp [nrm, ih]
theorem dots_enc (l : List Nat) : dots false (encL [13, 10] l) = encQ l := by
  induction l with
  | nil => rfl
  | cons c l ih =>
    rw [encL_cons, encQ_cons]
    split
    · simp [dots, ih]
    · simp [dots, ih]
theorem quote_enc (e : List Nat) (he : e = [10] ∨ e = [13] ∨ e = [13, 10]) (l : List Nat) : dots true (nrm false (46 :: encL e l)) = 46 :: 46 :: encQ l := by
  have h1 : nrm false (46 :: encL e l) = 46 :: nrm false (encL e l) := by simp [nrm]
  rw [h1, nrm_enc e he]
  simp [dots, dots_enc]

theorem slice_two (x : Str) (a b : Nat) (r : List Nat) (h : x.cps.toList = a :: b :: r) : (Txt.slice x (some 2) none).cps.toList = r := by
  have hl : x.length = r.length + 2 := by
    show x.cps.size = _
    rw [← Array.length_toList, h]; rfl
  have e : strSliceIndices (some (2 : Int)) none 1 x.length = strSliceIndices (some ((2 : Nat) : Int)) (some ((x.length : Nat) : Int)) 1 x.length := by
    unfold strSliceIndices
    dsimp only
    have h1 : ¬ ((x.length : Int) < 0) := by omega
    have h2 : max 0 (min (x.length : Int) (x.length : Int)) = x.length := by omega
    simp only [if_neg h1, h2]
    rfl
  have hp := sliced_plain x (a := 2) (b := x.length) (by omega) (Nat.le_refl _)
  have hq := strSliceIndices_plain (a := 2) (b := x.length) (len := x.length) (by omega) (Nat.le_refl _)
  unfold Txt.slice
  rw [e, if_neg]
  · show (List.filterMap _ _) = _
    rw [hp, h]
    show r.take (x.length - 2) = r
    exact List.take_of_length_le (by omega)
  · rw [hq]
    simp only [List.length_map, List.length_range]
    simp
    omega

/-- what comes of a mail when it is sent and read again -/
theorem sent_read (y : Str) (e l : List Nat) (he : e = [10] ∨ e = [13] ∨ e = [13, 10]) (hy : y.cps.toList = dots true (nrm false (46 :: encL e l))) (p q r : Str) (u : Str)
    (hp : p.cps.toList = [13, 10, 46]) (hq : q.cps.toList = [76]) (hr : r.cps.toList = [46]) (hu : u.cps.toList = [83]) :
    (Txt.replace (Txt.replace (Txt.slice y (some 2) none) p q) r u).cps.toList = sentL l := by
  have hpl : p.length = 3 := by show p.cps.size = 3; rw [← Array.length_toList, hp]; rfl
  have hrl : r.length = 1 := by show r.cps.size = 1; rw [← Array.length_toList, hr]; rfl
  rw [replace_rep _ _ _ (by omega), replace_rep _ _ _ (by omega), hp, hq, hr, hu]
  rw [slice_two y 46 46 (encQ l) (by rw [hy, quote_enc e he]), rep_one, rep_two]
end Mine
end
section
open PySem PySem.W PyProof.Rows
namespace Mine

def IsEnd (e : Str) : Prop := e = ⟨#[10]⟩ ∨ e = ⟨#[13]⟩ ∨ e = ⟨#[13, 10]⟩

theorem quote_use {w : World} {mean : ExcName → Option Value} {mg mb : Str → Option Value} {dp un : Nat} {gd : Option (List Code)} {cn : Str} {cs : Scope} {a : Addr} {ccd : Value} {cl : List (Str × Addr)} {outer : List Env} {A₀ : Around} {base h₀ : Heap} {L : Addr} {m : Str → Option Value} {news : List (Addr × Obj)} {s : Shared} {x : Str} {tk : Tok} {Q E : Value → Shared → Prop}
    (B : Below A₀ base outer h₀) (F : Fr h₀ L s.heap m) (X : (hd.heap_39 w.params).In h₀) (N : News h₀ L s.heap news) (T : Top hd.view_39 (looseW hd.view_39 [Str.ofString "_twin_re_1", Str.ofString "_twin_re_2"]) mean mg mb h₀) (hk : cs.kind = .function)
    (hx : x.cps.size ≤ 2 ^ 16) (hd : dp + 2 < recursionLimit) (hu : un + 20 < cLine)
    (ret : ∀ (y : Str) t h' tk', y = ⟨(quoteL x.cps.toList).toArray⟩ → y.length ≤ 262144 → Fr h₀ L h' m → News h₀ L h' news → Q (.str y t) { s with heap := h', toks := tk' }) :
    wpAny (model PySem.Challenge.rw_pg0011_01.row.prog w) (ktrTop dp un gd cn cs L a ccd cl outer) (call (.ref 48) [.str x tk]) Q E s :=
  quote_claim w mean mg mb news x tk _ _ _ _ _ _ _ _ _ _ _ _ _ _ _ _ _ B F X N T hk hx hd hu fun t h' tk' F' N' => ret _ t h' tk' rfl (by
    show (quoteL x.cps.toList).toArray.size ≤ _
    have h1 := nrm_length x.cps.toList false
    have h2 := dots_length (nrm false x.cps.toList) true
    rw [List.size_toArray]
    simp only [Array.length_toList] at h1
    show (dots true (nrm false x.cps.toList)).length ≤ _
    omega) F' N'

theorem rep_length (y z : List Nat) (hz : z.length ≤ 1) : ∀ (l : List Nat) (k : Nat), (rep y z k l).length ≤ l.length := by
  intro l
  induction l with
  | nil => intro k; simp [rep]
  | cons c r ih =>
    intro k
    cases k with
    | zero =>
      rw [rep]
      have h1 := ih (y.length - 1)
      have h2 := ih 0
      split <;> simp <;> omega
    | succ k =>
      rw [rep]
      have := ih k
      simp; omega
section
variable {prog : Program} {w : World} {A : Around} {E : Value → Shared → Prop} {s : Shared} {h₀ : Heap} {L : Addr} {m : Str → Option Value} {news : List (Addr × Obj)}
theorem replace_toks {x y z : Str} {t u v : Tok} {Q : Value → Shared → Prop} (hu : @LT.lt Nat _ 0 u) (huv : @LT.lt Nat _ u v) (hyz : (y == z) = false) (hx : x.length ≤ 1048576) (hz : z.length ≤ 1) (hy : 1 ≤ y.length)
    (hq : ∀ (r : Str) t' k, r = Txt.replace x y z → r.length ≤ x.length → s.toks ≤ k → Q (.str r t') { s with toks := k }) : wpAny (model prog w) A (call (.builtin "str.replace") [.str x t, .str y u, .str z v]) Q E s := by
  refine wpAny_toks (SC.replaceW (Nat.ne_of_gt hu) (Nat.ne_of_gt (Nat.lt_trans hu huv)) (Nat.ne_of_lt huv) hyz hx (by omega) fun t' k hk => hq _ t' k rfl ?_ hk)
  show (Txt.replace x y z).cps.size ≤ x.cps.size
  rw [← Array.length_toList, ← Array.length_toList, replace_rep _ _ _ hy]
  exact rep_length _ _ (by rw [Array.length_toList]; exact hz) _ _
theorem slice_toks {x : Str} {t : Tok} {value slice : PySem.Expr} {i : Int} {ui : Tok} {Q : Value → Shared → Prop} (hF : Fr h₀ L s.heap m) (hN : News h₀ L s.heap news)
    (h : ∀ h' t' k, Fr h₀ L h' m → News h₀ L h' news → (Txt.slice x (some i) none).length ≤ x.length → s.toks ≤ k → Q (.str (Txt.slice x (some i) none) t') { s with heap := h', toks := k })
    (hs : subscripted slice false (.str x t) (.ref s.heap.objs.size) = operate [.ref s.heap.objs.size, .str x t] (getItem (.str x t) (.ref s.heap.objs.size)) := by with_unfolding_all rfl)
    (ht : ∀ r, letTemporaryGo value (.str x t) r = pure () := by intro _; with_unfolding_all rfl) (hsz : x.length ≤ sizeLine := by size_fits) :
    wpAny (model prog w) A (subscriptTail value slice (.str x t) (.ref s.heap.objs.size)) Q E { s with heap := s.heap.push { cls := .type "slice", data := .fields #[.int i ui, .none, .none] } } :=
  wpAny_toks (slice_strN_sn_len hF hN (fun h' t' k a b c d => h h' t' k a b c d) hs ht hsz)
end

theorem encL_length (e l : List Nat) (he : e.length ≤ 2) : (encL e l).length ≤ 3 * l.length := by
  induction l with
  | nil => simp [encL]
  | cons c l ih =>
    simp only [encL, List.flatMap_cons, List.length_append, List.length_cons] at ih ⊢
    split
    · rw [List.length_append, List.length_singleton]; omega
    · rw [List.length_singleton]; omega
theorem end_length {e : Str} (he : IsEnd e) : e.length ≤ 2 := by
  rcases he with rfl | rfl | rfl <;> decide
theorem mail_size {e mail x : Str} (he : e.length ≤ 2) (hw : x.length ≤ 2 ^ 10) (h : mail.cps.toList = 46 :: encL e.cps.toList ((KStt.codes x).map Int.toNat)) : mail.cps.size ≤ 2 ^ 16 := by
  have h1 := congrArg List.length h
  have h2 := encL_length e.cps.toList ((KStt.codes x).map Int.toNat) (by rw [Array.length_toList]; exact he)
  simp only [Array.length_toList, List.length_cons, List.length_map, KStt.codes_length] at h1 h2
  omega

theorem encL_append (e a b : List Nat) : encL e (a ++ b) = encL e a ++ encL e b := by simp [encL]
theorem str_dot : Str.ofString "." = ⟨#[46]⟩ := by decide +kernel
theorem str_L : Str.ofString "L" = ⟨#[76]⟩ := by decide +kernel
theorem str_S : Str.ofString "S" = ⟨#[83]⟩ := by decide +kernel
theorem str_crlfdot : Str.ofString "\r\n." = ⟨#[13, 10, 46]⟩ := by decide +kernel
theorem sent_start {e : Str} : (Str.ofString ".").length ≤ 3 * ([] : List Int).length + 1 ∧ (Str.ofString ".").cps.toList = 46 :: encL e.cps.toList (List.map Int.toNat []) := by
  rw [str_dot]; exact ⟨by decide, rfl⟩
theorem sent_L {e mail : Str} {pre : List Int} {n : Nat} (he : e.length ≤ 2) (hl : mail.length ≤ 3 * pre.length + 1) (hm : mail.cps.toList = 46 :: encL e.cps.toList (pre.map Int.toNat)) (hn : ((⟨#[n]⟩ : Str) == Str.ofString "L") = true) :
    (mail ++ e ++ Str.ofString ".").length ≤ 3 * (pre ++ [(n : Int)]).length + 1 ∧ (mail ++ e ++ Str.ofString ".").cps.toList = 46 :: encL e.cps.toList (List.map Int.toNat (pre ++ [(n : Int)])) := by
  have e76 : n = 76 := by
    rw [str_L] at hn
    have := eq_of_beq hn
    injection this with h
    simpa using h
  subst e76
  rw [str_dot]
  constructor
  · simp only [Str.length_append, List.length_append, List.length_singleton]
    have : (⟨#[46]⟩ : Str).length = 1 := rfl
    omega
  · simp only [Str.cps_append, Array.toList_append, hm, List.map_append, encL_append]
    simp [encL]
theorem sent_S {e mail : Str} {pre : List Int} {n : Nat} (hl : mail.length ≤ 3 * pre.length + 1) (hm : mail.cps.toList = 46 :: encL e.cps.toList (pre.map Int.toNat)) (hn : ((⟨#[n]⟩ : Str) == Str.ofString "L") = false) :
    (mail ++ Str.ofString ".").length ≤ 3 * (pre ++ [(n : Int)]).length + 1 ∧ (mail ++ Str.ofString ".").cps.toList = 46 :: encL e.cps.toList (List.map Int.toNat (pre ++ [(n : Int)])) := by
  have e76 : n ≠ 76 := by
    rintro rfl
    rw [str_L] at hn
    exact absurd hn (by decide)
  rw [str_dot]
  constructor
  · simp only [Str.length_append, List.length_append, List.length_singleton]
    have : (⟨#[46]⟩ : Str).length = 1 := rfl
    omega
  · simp only [Str.cps_append, Array.toList_append, hm, List.map_append, encL_append]
    simp [encL, e76]
theorem codes_back (x : Str) : (KStt.codes x).map Int.toNat = x.cps.toList := by
  unfold KStt.codes
  rw [List.map_map]
  exact (List.map_congr_left (g := _root_.id) fun c _ => Int.toNat_natCast c).trans (List.map_id _)
theorem sent_end {x e mail y r1 r : Str} (he : IsEnd e) (hm : mail.cps.toList = 46 :: encL e.cps.toList ((KStt.codes x).map Int.toNat)) (hy : y = ⟨(quoteL mail.cps.toList).toArray⟩)
    (h1 : r1 = Txt.replace (Txt.slice y (some 2) none) (Str.ofString "\r\n.") (Str.ofString "L")) (h2 : r = Txt.replace r1 (Str.ofString ".") (Str.ofString "S")) : r = ⟨(sentL x.cps.toList).toArray⟩ := by
  rw [codes_back] at hm
  have hy' : y.cps.toList = dots true (nrm false (46 :: encL e.cps.toList x.cps.toList)) := by rw [hy, hm]; rfl
  have he' : e.cps.toList = [10] ∨ e.cps.toList = [13] ∨ e.cps.toList = [13, 10] := by
    rcases he with rfl | rfl | rfl
    · exact .inl rfl
    · exact .inr (.inl rfl)
    · exact .inr (.inr rfl)
  have := sent_read y _ _ he' hy' (Str.ofString "\r\n.") (Str.ofString "L") (Str.ofString ".") (Str.ofString "S") (by rw [str_crlfdot]) (by rw [str_L]) (by rw [str_dot]) (by rw [str_S])
  rw [← h1, ← h2] at this
  apply Str.ext'
  apply Array.toList_inj.mp
  rw [this]
local macro_rules | `(tactic| walk_at "subscriptTail Call") => `(tactic| ((with_reducible show wpAny _ _ (subscriptTail _ (Expr.Slice (some _) none none _) _ _) _ _ _); (with_reducible show wpAny _ _ (subscriptTail _ _ (Value.str _ _) (Value.ref _)) _ _ _); (refine slice_toks (hsz := ?hsz) (s := ⟨_, _, _, _, _⟩) (by assumption) (by assumption) ?_); (case hsz => size_fits); (intro hS hT hK hF hN hL hTk); (try dsimp only at hTk)))
local macro_rules | `(tactic| walk_at "call builtin:str.replace") => `(tactic| ((with_reducible show wpAny _ _ (call (Value.builtin "str.replace") [Value.str _ _, Value.str _ _, Value.str _ _]) _ _ _); (refine replace_toks ?u ?uv ?yz ?x ?z ?y ?_); (case u => (try dsimp only); omega); (case uv => (try dsimp only); omega); (case yz => decide +kernel); (case x => omega); (case z => decide +kernel); (case y => decide +kernel); (intro hR hT hK hE hL hTk); (try dsimp only at hTk)))
local macro_rules | `(tactic| walk_at "call ref") => `(tactic| (k_here; k_dflt (refine' quote_use ?k1 ?k2 ?k3 ?k4 ?k5 ?kK ?kx ?kd ?ku ?_; (case k1 => k_asm); (case k2 => k_asm); (case k3 => k_asm); (case k4 => k_asm); (case k5 => k_asm); (case kK => first | exact rfl | assumption); (case kx => exact mail_size (by assumption) (by assumption) (by assumption)); (case kd => ktr_room); (case ku => ktr_units); intro y9 t9 h9 tk9 hy9 hl9 F9 N9; (try dsimp only); (try k_fold))))

set_option maxHeartbeats 4000000 in
theorem sent_claim (w : World) (mean : ExcName → Option Value) (mg mb : Str → Option Value) (news : List (Addr × Obj)) (x e : Str) (t u : Tok) :
    Clm w mean mg mb 4 30 69 news (x.length ≤ 2 ^ 10 ∧ IsEnd e) [.str x t, .str e u] (fun t => .str ⟨(sentL x.cps.toList).toArray⟩ t) := by
  unfold Clm
  k_fill
  dsimp only [CbRet]
  intro dp un gd cn cs a ccd cl outer A₀ base h₀ L m s Q E B F X N T hk hpre hdp hun hret
  obtain ⟨hxl, he⟩ := hpre
  have hel := end_length he
  w_top off
  k_with_none
  refine wpAny_call ?_
  k_dflt cell_enter
  k_with "pyIter str" => k_state (fun pre mail => mail.length ≤ 3 * pre.length + 1 ∧ mail.cps.toList = 46 :: encL e.cps.toList (pre.map Int.toNat)) "mail"
  k_with "state" => first | exact sent_start | exact sent_L (by assumption) (by assumption) (by assumption) (by assumption) | exact sent_S (by assumption) (by assumption) (by assumption)
  k_with "tree" => exact sent_end (by assumption) (by assumption) (by assumption) (by assumption) (by assumption)
  k_steps
  all_goals cb_end hret
end Mine
end
section
open PySem PySem.W PyProof.Rows
namespace Mine
def changedL (l : List Nat) : List Nat := l.map fun c => if c = 76 then 83 else 76

theorem carried_texts : ∀ {vs : List Value} {ys : List Str}, CarriedAll vs (ys.map PyData.str) → ∃ l : List (Str × Tok), vs = strValues l ∧ l.map (·.1) = ys
  | [], [], _ => ⟨[], rfl, rfl⟩
  | _ :: _, [], h => by cases h
  | [], _ :: _, h => by cases h
  | v :: vs, y :: ys, h => by
    cases h with
    | cons hc hr =>
      obtain ⟨l, rfl, rfl⟩ := carried_texts hr
      cases hc with
      | str x t => exact ⟨(_, t) :: l, rfl, rfl⟩
theorem str_nil : Str.ofString "" = ⟨#[]⟩ := by decide +kernel
theorem changed_join (x : Str) : (((signs x).map fun a => if (a == Str.ofString "L") = true then Str.ofString "S" else Str.ofString "L").map fun p => p.cps.toList).flatten = changedL x.cps.toList := by
  unfold signs changedL
  rw [str_L, str_S]
  induction x.cps.toList with
  | nil => rfl
  | cons c l ih =>
    simp only [List.map_cons, List.flatten_cons, ih]
    by_cases hc : c = 76
    · subst hc; rfl
    · rw [if_neg hc, if_neg]
      · rfl
      · intro h
        have := eq_of_beq h
        injection this with h2
        simp at h2
        exact hc h2
theorem join_changed {prog : Program} {w : World} {A : Around} {E : Value → Shared → Prop} {s : Shared} {x : Str} {D : Addr} {ys : List Value} {t : Tok} {Q : Value → Shared → Prop} (hl : s.heap.IsList D ys.toArray)
    (hc : CarriedAll ys (List.map (fun a => if (a == Str.ofString "L") = true then PyData.str (Str.ofString "S") else PyData.str (Str.ofString "L")) (List.filter (fun _ => true) (signs x)))) (hx : x.length ≤ 2 ^ 11)
    (h : ∀ t' k, Q (.str ⟨(changedL x.cps.toList).toArray⟩ t') { s with toks := k }) : wpAny (model prog w) A (call (.builtin "str.join") [.str (Str.ofString "") t, .ref D]) Q E s := by
  have e : (List.map (fun a => if (a == Str.ofString "L") = true then PyData.str (Str.ofString "S") else PyData.str (Str.ofString "L")) (List.filter (fun _ => true) (signs x))) =
      ((signs x).map fun a => if (a == Str.ofString "L") = true then Str.ofString "S" else Str.ofString "L").map PyData.str := by
    rw [List.filter_eq_self.mpr (fun _ _ => rfl), List.map_map]
    refine List.map_congr_left fun a _ => ?_
    show (if (a == Str.ofString "L") = true then PyData.str (Str.ofString "S") else PyData.str (Str.ofString "L")) = PyData.str (if (a == Str.ofString "L") = true then Str.ofString "S" else Str.ofString "L")
    by_cases hb : (a == Str.ofString "L") = true
    · rw [if_pos hb, if_pos hb]
    · rw [if_neg hb, if_neg hb]
  rw [e] at hc
  obtain ⟨l, rfl, ht⟩ := carried_texts hc
  refine SC.join hl ht ?_ ?_
  · refine joinOk_of ?_
    have h0 : (Str.ofString "").length = 0 := by rw [str_nil]; rfl
    rw [h0, Nat.mul_zero, Nat.add_zero, sum_lengths, changed_join]
    unfold changedL
    rw [List.length_map, Array.length_toList]
    have : x.cps.size ≤ 2 ^ 11 := hx
    omega
  · intro t' k
    rw [joined_texts _ (by rw [str_nil]), changed_join]
    exact h t' k
local macro_rules | `(tactic| walk_at "call builtin:str.join") => `(tactic| (k_here; k_dflt ((refine' join_changed ?j1 ?j2 ?j3 ?_); (case j1 => assumption); (case j2 => assumption); (case j3 => assumption); k_whole); intro t9 k9))
set_option maxHeartbeats 4000000 in
theorem changed_claim (w : World) (mean : ExcName → Option Value) (mg mb : Str → Option Value) (news : List (Addr × Obj)) (x : Str) (t : Tok) :
    Clm w mean mg mb 4 30 74 news (x.length ≤ 2 ^ 11) [.str x t] (fun t => .str ⟨(changedL x.cps.toList).toArray⟩ t) := by
  unfold Clm
  k_fill
  dsimp only [CbRet]
  intro dp un gd cn cs a ccd cl outer A₀ base h₀ L m s Q E B F X N T hk hxl hdp hun hret
  w_top off
  k_with_none
  refine wpAny_call ?_
  k_dflt cell_enter
  k_steps
  all_goals cb_end hret
end Mine
end
section
open PySem PySem.W PyProof.Rows
namespace Mine
def ledL (k : Int) (l : List Nat) : List Nat := if k = 1 then sentL (changedL l) else if k = 2 then changedL (sentL l) else sentL l

theorem sentL_length (l : List Nat) : (sentL l).length ≤ 2 * l.length := by
  induction l with
  | nil => simp [sentL]
  | cons c l ih =>
    rw [sentL_cons, List.length_append, List.length_cons]
    split <;> simp <;> omega
theorem changedL_length (l : List Nat) : (changedL l).length = l.length := by simp [changedL]

section
variable {w : World} {mean : ExcName → Option Value} {mg mb : Str → Option Value} {dp un : Nat} {gd : Option (List Code)} {cn : Str} {cs : Scope} {a : Addr} {ccd : Value} {cl : List (Str × Addr)} {outer : List Env} {A₀ : Around} {base h₀ : Heap} {L : Addr} {m : Str → Option Value} {news : List (Addr × Obj)} {s : Shared} {x e : Str} {tk tk2 : Tok} {Q E : Value → Shared → Prop}
theorem sent_use
    (B : Below A₀ base outer h₀) (F : Fr h₀ L s.heap m) (X : (hd.heap_39 w.params).In h₀) (N : News h₀ L s.heap news) (T : Top hd.view_39 (looseW hd.view_39 [Str.ofString "_twin_re_1", Str.ofString "_twin_re_2"]) mean mg mb h₀) (hk : cs.kind = .function)
    (hx : x.length ≤ 2 ^ 10) (he : IsEnd e) (hd : dp + 4 < recursionLimit) (hu : un + 30 < cLine)
    (ret : ∀ (y : Str) t h' tk', y = ⟨(sentL x.cps.toList).toArray⟩ → y.length ≤ 2 * x.length → Fr h₀ L h' m → News h₀ L h' news → Q (.str y t) { s with heap := h', toks := tk' }) :
    wpAny (model PySem.Challenge.rw_pg0011_01.row.prog w) (ktrTop dp un gd cn cs L a ccd cl outer) (call (.ref 69) [.str x tk, .str e tk2]) Q E s :=
  sent_claim w mean mg mb news x e tk tk2 _ _ _ _ _ _ _ _ _ _ _ _ _ _ _ _ _ B F X N T hk ⟨hx, he⟩ hd hu fun t h' tk' F' N' => ret _ t h' tk' rfl (by
    show (sentL x.cps.toList).toArray.size ≤ 2 * x.cps.size
    rw [List.size_toArray, ← Array.length_toList]
    exact sentL_length _) F' N'
theorem changed_use
    (B : Below A₀ base outer h₀) (F : Fr h₀ L s.heap m) (X : (hd.heap_39 w.params).In h₀) (N : News h₀ L s.heap news) (T : Top hd.view_39 (looseW hd.view_39 [Str.ofString "_twin_re_1", Str.ofString "_twin_re_2"]) mean mg mb h₀) (hk : cs.kind = .function)
    (hx : x.length ≤ 2 ^ 11) (hd : dp + 4 < recursionLimit) (hu : un + 30 < cLine)
    (ret : ∀ (y : Str) t h' tk', y = ⟨(changedL x.cps.toList).toArray⟩ → y.length ≤ x.length → Fr h₀ L h' m → News h₀ L h' news → Q (.str y t) { s with heap := h', toks := tk' }) :
    wpAny (model PySem.Challenge.rw_pg0011_01.row.prog w) (ktrTop dp un gd cn cs L a ccd cl outer) (call (.ref 74) [.str x tk]) Q E s :=
  changed_claim w mean mg mb news x tk _ _ _ _ _ _ _ _ _ _ _ _ _ _ _ _ _ B F X N T hk hx hd hu fun t h' tk' F' N' => ret _ t h' tk' rfl (by
    show (changedL x.cps.toList).toArray.size ≤ x.cps.size
    rw [List.size_toArray, changedL_length, Array.length_toList]
    exact Nat.le_refl _) F' N'
end
theorem led_1 {k : Int} {x y z : Str} (hk : k = 1) (hy : y = ⟨(changedL x.cps.toList).toArray⟩) (hz : z = ⟨(sentL y.cps.toList).toArray⟩) : z = ⟨(ledL k x.cps.toList).toArray⟩ := by
  rw [hz, hy, ledL, if_pos hk]
theorem led_2 {k : Int} {x y z : Str} (hk : k = 2) (hy : y = ⟨(sentL x.cps.toList).toArray⟩) (hz : z = ⟨(changedL y.cps.toList).toArray⟩) : z = ⟨(ledL k x.cps.toList).toArray⟩ := by
  rw [hz, hy, ledL, if_neg (by omega), if_pos hk]
theorem led_0 {k : Int} {x z : Str} (h1 : ¬ k = 1) (hk : ¬ k = 2) (hz : z = ⟨(sentL x.cps.toList).toArray⟩) : z = ⟨(ledL k x.cps.toList).toArray⟩ := by
  rw [hz, ledL, if_neg h1, if_neg hk]

local macro_rules | `(tactic| walk_at "no such key") => `(tactic| fail)
local macro_rules | `(tactic| walk_at "call ref") => `(tactic| (k_here; k_dflt (first
  | (refine' sent_use ?k1 ?k2 ?k3 ?k4 ?k5 ?kK ?kx ?ke ?kd ?ku ?_; (case k1 => k_asm); (case k2 => k_asm); (case k3 => k_asm); (case k4 => k_asm); (case k5 => k_asm); (case kK => first | exact rfl | assumption); (case kx => omega); (case ke => assumption); (case kd => ktr_room); (case ku => ktr_units); intro y9 t9 h9 tk9 hy9 hl9 F9 N9; (try dsimp only); (try k_fold))
  | (refine' changed_use ?k1 ?k2 ?k3 ?k4 ?k5 ?kK ?kx ?kd ?ku ?_; (case k1 => k_asm); (case k2 => k_asm); (case k3 => k_asm); (case k4 => k_asm); (case k5 => k_asm); (case kK => first | exact rfl | assumption); (case kx => omega); (case kd => ktr_room); (case ku => ktr_units); intro y9 t9 h9 tk9 hy9 hl9 F9 N9; (try dsimp only); (try k_fold)))))

set_option maxHeartbeats 4000000 in
theorem led_claim (w : World) (mean : ExcName → Option Value) (mg mb : Str → Option Value) (news : List (Addr × Obj)) (x e : Str) (k : Int) (t u v : Tok) :
    Clm w mean mg mb 6 40 81 news (x.length ≤ 2 ^ 10 ∧ IsEnd e) [.str x t, .int k u, .str e v] (fun t => .str ⟨(ledL k x.cps.toList).toArray⟩ t) := by
  unfold Clm
  k_fill
  dsimp only [CbRet]
  intro dp un gd cn cs a ccd cl outer A₀ base h₀ L m s Q E B F X N T hk hpre hdp hun hret
  obtain ⟨hxl, he⟩ := hpre
  w_top off
  k_with_none
  refine wpAny_call ?_
  k_dflt cell_enter
  k_with "tree" => first | exact led_1 (by assumption) (by assumption) (by assumption) | exact led_2 (by assumption) (by assumption) (by assumption) | exact led_0 (by omega) (by omega) (by assumption)
  k_steps
  all_goals cb_end hret
end Mine
end
section
open PySem PySem.W PyProof.Rows
namespace Mine
theorem bits_small {b : Int} (h : b.natAbs < 2 ^ 62) : Builtin.Int.intBits b ≤ 64 := by
  unfold Builtin.Int.intBits
  split
  · omega
  · rename_i hb
    have hb' : b.natAbs ≠ 0 := by simpa using hb
    have := (Nat.log2_lt hb').mpr h
    omega
theorem mul_small {prog : Program} {w : World} {A : Around} {E : Value → Shared → Prop} {s : Shared} {a b : Int} {t u : Tok} {Q : Value → Shared → Prop} (hb : b.natAbs < 2 ^ 62)
    (h : Q (.int (a * b) s.toks) { s with toks := s.toks + 1 }) : wpAny (model prog w) A (binaryOp .Mult (.int a t) (.int b u)) Q E s := PyProof.Rows.mul_int h (IntMulOk.of_right (bits_small hb))
local macro_rules | `(tactic| walk_at "binaryOp Mult int int") => `(tactic| (k_here; k_dflt ((refine' mul_small ?mb ?_); (case mb => assumption); k_whole)))

def partI (n : Int) : Int := if (n.fdiv 3).fmod 14 - 7 < 0 then (n.fdiv 3).fmod 14 - 7 else (n.fdiv 3).fmod 14 - 7 + 1

set_option maxHeartbeats 4000000 in
theorem mul_claim (w : World) (mean : ExcName → Option Value) (mg mb : Str → Option Value) (news : List (Addr × Obj)) (a b : Int) (t u : Tok) :
    Clm w mean mg mb 4 30 62 news (b.natAbs < 2 ^ 62) [.int a t, .int b u] (fun t => .int (a * b) t) := by
  unfold Clm
  k_fill
  dsimp only [CbRet]
  intro dp un gd cn cs ad ccd cl outer A₀ base h₀ L m s Q E B F X N T hk hpre hdp hun hret
  w_top off
  k_with_none
  refine wpAny_call ?_
  k_dflt cell_enter
  k_steps
  all_goals cb_end hret
set_option maxHeartbeats 4000000 in
theorem add_claim (w : World) (mean : ExcName → Option Value) (mg mb : Str → Option Value) (news : List (Addr × Obj)) (a b : Int) (t u : Tok) :
    Clm w mean mg mb 4 30 55 news True [.int a t, .int b u] (fun t => .int (a + b) t) := by
  unfold Clm
  k_fill
  dsimp only [CbRet]
  intro dp un gd cn cs ad ccd cl outer A₀ base h₀ L m s Q E B F X N T hk hpre hdp hun hret
  w_top off
  k_with_none
  refine wpAny_call ?_
  k_dflt cell_enter
  k_steps
  all_goals cb_end hret
set_option maxHeartbeats 4000000 in
theorem addS_claim (w : World) (mean : ExcName → Option Value) (mg mb : Str → Option Value) (news : List (Addr × Obj)) (a b : Str) (t u : Tok) :
    Clm w mean mg mb 4 30 55 news (a.length ≤ 65536 ∧ b.length ≤ 65536) [.str a t, .str b u] (fun t => .str (a ++ b) t) := by
  unfold Clm
  k_fill
  dsimp only [CbRet]
  intro dp un gd cn cs ad ccd cl outer A₀ base h₀ L m s Q E B F X N T hk hpre hdp hun hret
  obtain ⟨h1, h2⟩ := hpre
  w_top off
  k_with_none
  refine wpAny_call ?_
  k_dflt cell_enter
  k_steps
  all_goals cb_end hret
set_option maxHeartbeats 4000000 in
theorem part_claim (w : World) (mean : ExcName → Option Value) (mg mb : Str → Option Value) (news : List (Addr × Obj)) (n : Int) (t : Tok) :
    Clm w mean mg mb 4 30 95 news True [.int n t] (fun t => .int (partI n) t) := by
  unfold Clm
  k_fill
  dsimp only [CbRet]
  intro dp un gd cn cs ad ccd cl outer A₀ base h₀ L m s Q E B F X N T hk hpre hdp hun hret
  w_top off
  k_with_none
  refine wpAny_call ?_
  k_dflt cell_enter
  k_with "tree" => simp only [partI]
  k_steps
  all_goals cb_end hret
end Mine
end
section
open PySem PySem.W PyProof.Rows
namespace Mine
/-- a table of four numbers -/
structure Tab where
  a : Int
  b : Int
  c : Int
  d : Int
def Tab.mul (x y : Tab) : Tab := ⟨x.a * y.a + x.b * y.c, x.a * y.b + x.b * y.d, x.c * y.a + x.d * y.c, x.c * y.b + x.d * y.d⟩
def Tab.one : Tab := ⟨1, 0, 0, 1⟩
def Tab.small (x : Tab) : Prop := x.a.natAbs < 2 ^ 62 ∧ x.b.natAbs < 2 ^ 62 ∧ x.c.natAbs < 2 ^ 62 ∧ x.d.natAbs < 2 ^ 62
/-- the product of a word's tables -/
def prodT (f g : Tab) (l : List Nat) : Tab := l.foldl (fun x c => x.mul (if c = 76 then f else g)) Tab.one
def diagI (f g : Tab) (l : List Nat) : Int := (prodT f g l).a + (prodT f g l).d
def tupObj (f : Tab) (t1 t2 t3 t4 : Tok) (n : Nat) : Obj := { cls := .type "tuple", data := .seq #[.int f.a t1, .int f.b t2, .int f.c t3, .int f.d t4] n }

section
variable {w : World} {mean : ExcName → Option Value} {mg mb : Str → Option Value} {dp un : Nat} {gd : Option (List Code)} {cn : Str} {cs : Scope} {a : Addr} {ccd : Value} {cl : List (Str × Addr)} {outer : List Env} {A₀ : Around} {base h₀ : Heap} {L : Addr} {m : Str → Option Value} {news : List (Addr × Obj)} {s : Shared} {x y : Int} {tk tk2 : Tok} {Q E : Value → Shared → Prop}
theorem mul_use
    (B : Below A₀ base outer h₀) (F : Fr h₀ L s.heap m) (X : (hd.heap_39 w.params).In h₀) (N : News h₀ L s.heap news) (T : Top hd.view_39 (looseW hd.view_39 [Str.ofString "_twin_re_1", Str.ofString "_twin_re_2"]) mean mg mb h₀) (hk : cs.kind = .function)
    (hx : y.natAbs < 2 ^ 62) (hd : dp + 4 < recursionLimit) (hu : un + 30 < cLine)
    (ret : ∀ t h' tk', Fr h₀ L h' m → News h₀ L h' news → Q (.int (x * y) t) { s with heap := h', toks := tk' }) :
    wpAny (model PySem.Challenge.rw_pg0011_01.row.prog w) (ktrTop dp un gd cn cs L a ccd cl outer) (call (.ref 62) [.int x tk, .int y tk2]) Q E s :=
  mul_claim w mean mg mb news x y tk tk2 _ _ _ _ _ _ _ _ _ _ _ _ _ _ _ _ _ B F X N T hk hx hd hu ret
theorem add_use
    (B : Below A₀ base outer h₀) (F : Fr h₀ L s.heap m) (X : (hd.heap_39 w.params).In h₀) (N : News h₀ L s.heap news) (T : Top hd.view_39 (looseW hd.view_39 [Str.ofString "_twin_re_1", Str.ofString "_twin_re_2"]) mean mg mb h₀) (hk : cs.kind = .function)
    (hd : dp + 4 < recursionLimit) (hu : un + 30 < cLine)
    (ret : ∀ t h' tk', Fr h₀ L h' m → News h₀ L h' news → Q (.int (x + y) t) { s with heap := h', toks := tk' }) :
    wpAny (model PySem.Challenge.rw_pg0011_01.row.prog w) (ktrTop dp un gd cn cs L a ccd cl outer) (call (.ref 55) [.int x tk, .int y tk2]) Q E s :=
  add_claim w mean mg mb news x y tk tk2 _ _ _ _ _ _ _ _ _ _ _ _ _ _ _ _ _ B F X N T hk trivial hd hu ret
end

theorem prodT_snoc (f g : Tab) (l : List Nat) (c : Nat) : prodT f g (l ++ [c]) = (prodT f g l).mul (if c = 76 then f else g) := by
  simp [prodT, List.foldl_append]
theorem is_L {n : Nat} (h : ((⟨#[n]⟩ : Str) == Str.ofString "L") = true) : n = 76 := by
  rw [str_L] at h
  have := eq_of_beq h
  injection this with h
  simpa using h
theorem not_L {n : Nat} (h : ((⟨#[n]⟩ : Str) == Str.ofString "L") = false) : n ≠ 76 := by
  rintro rfl
  rw [str_L] at h
  exact absurd h (by decide)
theorem diag_0 {f g : Tab} : Tab.mk 1 0 0 1 = prodT f g (List.map Int.toNat []) := rfl
theorem diag_L {a b c d fa fb fc fd : Int} {g : Tab} {pre : List Int} {n : Nat} (h : Tab.mk a b c d = prodT ⟨fa, fb, fc, fd⟩ g (pre.map Int.toNat)) (hn : ((⟨#[n]⟩ : Str) == Str.ofString "L") = true) :
    Tab.mk (a * fa + b * fc) (a * fb + b * fd) (c * fa + d * fc) (c * fb + d * fd) = prodT ⟨fa, fb, fc, fd⟩ g (List.map Int.toNat (pre ++ [(n : Int)])) := by
  rw [List.map_append]
  show _ = prodT _ _ (_ ++ [n])
  rw [prodT_snoc, ← h, if_pos (is_L hn)]
  rfl
theorem diag_S {a b c d ga gb gc gd : Int} {f : Tab} {pre : List Int} {n : Nat} (h : Tab.mk a b c d = prodT f ⟨ga, gb, gc, gd⟩ (pre.map Int.toNat)) (hn : ((⟨#[n]⟩ : Str) == Str.ofString "L") = false) :
    Tab.mk (a * ga + b * gc) (a * gb + b * gd) (c * ga + d * gc) (c * gb + d * gd) = prodT f ⟨ga, gb, gc, gd⟩ (List.map Int.toNat (pre ++ [(n : Int)])) := by
  rw [List.map_append]
  show _ = prodT _ _ (_ ++ [n])
  rw [prodT_snoc, ← h, if_neg (not_L hn)]
  rfl
theorem diag_end {a b c d : Int} {f g : Tab} {x : Str} (h : Tab.mk a b c d = prodT f g ((KStt.codes x).map Int.toNat)) : a + d = diagI f g x.cps.toList := by
  rw [codes_back] at h
  unfold diagI
  rw [← h]
local macro_rules | `(tactic| walk_at "no such key") => `(tactic| fail)
local macro_rules | `(tactic| walk_at "call ref") => `(tactic| (k_here; k_dflt (first
  | (refine' mul_use ?k1 ?k2 ?k3 ?k4 ?k5 ?kK ?kx ?kd ?ku ?_; (case k1 => k_asm); (case k2 => k_asm); (case k3 => k_asm); (case k4 => k_asm); (case k5 => k_asm); (case kK => first | exact rfl | assumption); (case kx => assumption); (case kd => ktr_room); (case ku => ktr_units); intro t9 h9 tk9 F9 N9; (try dsimp only); (try k_fold))
  | (refine' add_use ?k1 ?k2 ?k3 ?k4 ?k5 ?kK ?kd ?ku ?_; (case k1 => k_asm); (case k2 => k_asm); (case k3 => k_asm); (case k4 => k_asm); (case k5 => k_asm); (case kK => first | exact rfl | assumption); (case kd => ktr_room); (case ku => ktr_units); intro t9 h9 tk9 F9 N9; (try dsimp only); (try k_fold)))))

set_option maxHeartbeats 8000000 in
theorem diag_claim0 (w : World) (mean : ExcName → Option Value) (mg mb : Str → Option Value) (news : List (Addr × Obj)) (x : Str) (fa fb fc fd ga gb gc gd0 : Int) (D1 D2 : Addr) (t u1 u2 u3 u4 v1 v2 v3 v4 : Tok) (n1 n2 : Nat) :
    Clm w mean mg mb 6 40 88 ((D1, { cls := .type "tuple", data := .seq #[.int fa u1, .int fb u2, .int fc u3, .int fd u4] n1 }) :: (D2, { cls := .type "tuple", data := .seq #[.int ga v1, .int gb v2, .int gc v3, .int gd0 v4] n2 }) :: news)
      (x.length ≤ 2 ^ 12 ∧ (Tab.mk fa fb fc fd).small ∧ (Tab.mk ga gb gc gd0).small) [.str x t, .ref D1, .ref D2] (fun t => .int (diagI ⟨fa, fb, fc, fd⟩ ⟨ga, gb, gc, gd0⟩ x.cps.toList) t) := by
  unfold Clm
  k_fill
  dsimp only [CbRet]
  intro dp un gd cn cs ad ccd cl outer A₀ base h₀ L m s Q E B F X N T hk hpre hdp hun hret
  obtain ⟨hxl, ⟨hf1, hf2, hf3, hf4⟩, ⟨hg1, hg2, hg3, hg4⟩⟩ := hpre
  dsimp only at hf1 hf2 hf3 hf4 hg1 hg2 hg3 hg4
  w_top off
  k_with_none
  refine wpAny_call ?_
  k_dflt cell_enter
  k_with "pyIter str" => k_state (fun pre a b c d => Tab.mk a b c d = prodT ⟨fa, fb, fc, fd⟩ ⟨ga, gb, gc, gd0⟩ (pre.map Int.toNat)) "a" "b" "c" "d"
  k_with "state" => first | exact diag_0 | exact diag_L (by assumption) (by assumption) | exact diag_S (by assumption) (by assumption)
  k_with "tree" => exact diag_end (by assumption)
  k_steps
  all_goals cb_end hret
end Mine
end
section
open PySem PySem.W PyProof.Rows
namespace Mine
/-- one number's deed upon the three sums -/
def backT (n : Int) (s : Int × Int × Int) : Int × Int × Int :=
  let (x, y, z) := s
  let (x, y) := if n.fmod 3 = 2 then (y, x) else (x, y)
  let (x, z) := (z, z * y - x)
  let (x, y) := if n.fmod 3 = 1 then (y, x) else (x, y)
  (x, y, z)
def backF (ns : List Int) (s : Int × Int × Int) : Int × Int × Int := ns.foldl (fun s n => backT n s) s

def Lid (k : Nat) : Nat := 2 ^ (16 * 2 ^ k)

theorem lid_succ (k : Nat) : Lid (k + 1) = Lid k * Lid k := by
  unfold Lid
  rw [← Nat.pow_add, Nat.pow_succ]
  congr 1
  omega
theorem lid_pos (k : Nat) : 0 < Lid k := Nat.pow_pos (by decide)
theorem lid_le (k : Nat) : Lid k ≤ Lid (k + 1) := by
  rw [lid_succ]
  exact Nat.le_mul_of_pos_left _ (lid_pos k)
theorem lid_turn {k : Nat} {x y z : Int} (hx : x.natAbs < Lid k) (hy : y.natAbs < Lid k) (hz : z.natAbs < Lid k) : (z * y - x).natAbs < Lid (k + 1) := by
  have h1 : (z * y - x).natAbs ≤ z.natAbs * y.natAbs + x.natAbs := by
    have := Int.natAbs_sub_le (z * y) x
    rw [Int.natAbs_mul] at this
    exact this
  have h2 : z.natAbs * y.natAbs ≤ (Lid k - 1) * (Lid k - 1) := Nat.mul_le_mul (by omega) (by omega)
  have h3 : (Lid k - 1) * (Lid k - 1) + (Lid k - 1) = (Lid k - 1) * Lid k := by
    have hp := lid_pos k
    obtain ⟨j, hj⟩ : ∃ j, Lid k = j + 1 := ⟨Lid k - 1, by omega⟩
    rw [hj, Nat.add_sub_cancel, Nat.mul_succ]
  have h4 : (Lid k - 1) * Lid k < Lid k * Lid k := Nat.mul_lt_mul_of_pos_right (by have := lid_pos k; omega) (lid_pos k)
  rw [lid_succ]
  omega
theorem lid_mono {k j : Nat} (h : k ≤ j) : Lid k ≤ Lid j := by
  induction h with
  | refl => exact Nat.le_refl _
  | step _ ih => exact Nat.le_trans ih (lid_le _)
theorem lid_eight : Lid 8 = 2 ^ 4096 := by unfold Lid; rfl
theorem bits_lid {a : Int} {k : Nat} (hk : k ≤ 8) (h : a.natAbs < Lid k) : Builtin.Int.intBits a ≤ 2 ^ 20 := by
  have h1 : a.natAbs < 2 ^ 4096 := by
    have := lid_mono hk
    rw [lid_eight] at this
    exact Nat.lt_of_lt_of_le h this
  unfold Builtin.Int.intBits
  split
  · omega
  · rename_i hb
    have hb' : a.natAbs ≠ 0 := by simpa using hb
    have := (Nat.log2_lt hb').mpr h1
    omega
theorem mul_lid {prog : Program} {w : World} {A : Around} {E : Value → Shared → Prop} {s : Shared} {a b : Int} {t u : Tok} {Q : Value → Shared → Prop} {ns pre post : List Int} {n : Int} (hl : ns.length ≤ 8) (he : ns.reverse = pre ++ n :: post) (ha : a.natAbs < Lid pre.length) (hb : b.natAbs < Lid pre.length)
    (h : Q (.int (a * b) s.toks) { s with toks := s.toks + 1 }) : wpAny (model prog w) A (binaryOp .Mult (.int a t) (.int b u)) Q E s := by
  have hk : pre.length ≤ 8 := by
    have := congrArg List.length he
    simp at this
    omega
  exact PyProof.Rows.mul_int h (IntMulOk.of_bits (bits_lid hk ha) (bits_lid hk hb))
section
variable {a b c n x y z : Int} {pre : List Int}
theorem backF_snoc (pre : List Int) (n : Int) (S : Int × Int × Int) : backF (pre ++ [n]) S = backT n (backF pre S) := by simp [backF]
theorem back_0 (hx : x.natAbs < 2 ^ 16) (hy : y.natAbs < 2 ^ 16) (hz : z.natAbs < 2 ^ 16) : (x, y, z) = backF [] (x, y, z) ∧ x.natAbs < Lid ([] : List Int).length ∧ y.natAbs < Lid ([] : List Int).length ∧ z.natAbs < Lid ([] : List Int).length := ⟨rfl, hx, hy, hz⟩
theorem back_2 (h : (a, b, c) = backF pre (x, y, z)) (ha : a.natAbs < Lid pre.length) (hb : b.natAbs < Lid pre.length) (hc : c.natAbs < Lid pre.length) (hn : n.fmod 3 = 2) :
    (c, a, c * a - b) = backF (pre ++ [n]) (x, y, z) ∧ c.natAbs < Lid (pre ++ [n]).length ∧ a.natAbs < Lid (pre ++ [n]).length ∧ (c * a - b).natAbs < Lid (pre ++ [n]).length := by
  rw [List.length_append, List.length_singleton]
  refine ⟨?_, Nat.lt_of_lt_of_le hc (lid_le _), Nat.lt_of_lt_of_le ha (lid_le _), lid_turn hb ha hc⟩
  rw [backF_snoc, ← h]
  simp [backT, hn]
theorem back_1 (h : (a, b, c) = backF pre (x, y, z)) (ha : a.natAbs < Lid pre.length) (hb : b.natAbs < Lid pre.length) (hc : c.natAbs < Lid pre.length) (hn : n.fmod 3 = 1) :
    (b, c, c * b - a) = backF (pre ++ [n]) (x, y, z) ∧ b.natAbs < Lid (pre ++ [n]).length ∧ c.natAbs < Lid (pre ++ [n]).length ∧ (c * b - a).natAbs < Lid (pre ++ [n]).length := by
  rw [List.length_append, List.length_singleton]
  refine ⟨?_, Nat.lt_of_lt_of_le hb (lid_le _), Nat.lt_of_lt_of_le hc (lid_le _), lid_turn ha hb hc⟩
  rw [backF_snoc, ← h]
  simp [backT, hn]
theorem back_3 (h : (a, b, c) = backF pre (x, y, z)) (ha : a.natAbs < Lid pre.length) (hb : b.natAbs < Lid pre.length) (hc : c.natAbs < Lid pre.length) (h2 : n.fmod 3 ≠ 2) (h1 : n.fmod 3 ≠ 1) :
    (c, b, c * b - a) = backF (pre ++ [n]) (x, y, z) ∧ c.natAbs < Lid (pre ++ [n]).length ∧ b.natAbs < Lid (pre ++ [n]).length ∧ (c * b - a).natAbs < Lid (pre ++ [n]).length := by
  rw [List.length_append, List.length_singleton]
  refine ⟨?_, Nat.lt_of_lt_of_le hc (lid_le _), Nat.lt_of_lt_of_le hb (lid_le _), lid_turn ha hb hc⟩
  rw [backF_snoc, ← h]
  simp [backT, h1, h2]
end
theorem back_end {h₀ h' : Heap} {L D D2 l : Addr} {m : Str → Option Value} {o o2 : Obj} {news : List (Addr × Obj)} {s : Shared} {Q : Value → Shared → Prop} {R : Int × Int × Int} {a b c : Int} {t1 t2 t3 : Tok} {tk : Nat}
    (hret : ∀ D' t1 t2 t3 h' tk', Fr h₀ L h' m → News h₀ L h' ((D', W.listOf #[.int R.1 t1, .int R.2.1 t2, .int R.2.2 t3] 0) :: (D, o) :: news) → Q (.ref D') { s with heap := h', toks := tk' })
    (h : (a, b, c) = R) (F' : Fr h₀ L h' m) (N' : News h₀ L h' ((l, W.listOf #[.int a t1, .int b t2, .int c t3] 0) :: (D2, o2) :: (D, o) :: news)) : Q (.ref l) { s with heap := h', toks := tk } := by
  subst h
  exact hret l t1 t2 t3 h' tk F' fun p hp => N' p (by
    rcases List.mem_cons.mp hp with e | hp
    · rw [e]; exact .head _
    · exact .tail _ (.tail _ hp))
local macro_rules | `(tactic| walk_at "binaryOp Mult int int") => `(tactic| (k_here; k_dflt ((refine' mul_lid ?m1 ?m2 ?m3 ?m4 ?_); (case m1 => assumption); (case m2 => assumption); (case m3 => assumption); (case m4 => assumption); k_whole)))
set_option maxHeartbeats 8000000 in
theorem back_claim0 (w : World) (mean : ExcName → Option Value) (mg mb : Str → Option Value) (news : List (Addr × Obj)) (D : Addr) (vs : List Value) (ns : List Int) (x y z : Int) (n0 : Nat) (tx ty tz : Tok)
    (hI : IntsAre vs ns) (hl : ns.length ≤ 8) (hx : x.natAbs < 2 ^ 16) (hy : y.natAbs < 2 ^ 16) (hz : z.natAbs < 2 ^ 16) :
  ∀ (dp un : Nat) (gd : Option (List Code)) (cn : Str) (cs : Scope) (a : Addr) (ccd : Value) (cl : List (Str × Addr)) (outer : List Env) (A₀ : Around) (base h₀ : Heap) (L : Addr) (m : Str → Option Value) (s : Shared) (Q E : Value → Shared → Prop),
    Below A₀ base outer h₀ → Fr h₀ L s.heap m → (hd.heap_39 w.params).In h₀ → News h₀ L s.heap ((D, W.listOf vs.toArray n0) :: news) → Top hd.view_39 (looseW hd.view_39 [Str.ofString "_twin_re_1", Str.ofString "_twin_re_2"]) mean mg mb h₀ → cs.kind = .function →
    dp + 6 < recursionLimit → un + 40 < cLine → (∀ D' t1 t2 t3 h' tk', Fr h₀ L h' m → News h₀ L h' ((D', W.listOf #[.int (backF ns.reverse (x, y, z)).1 t1, .int (backF ns.reverse (x, y, z)).2.1 t2, .int (backF ns.reverse (x, y, z)).2.2 t3] 0) :: (D, W.listOf vs.toArray n0) :: news) → Q (.ref D') { s with heap := h', toks := tk' }) →
      wpAny (model PySem.Challenge.rw_pg0011_01.row.prog w) (ktrTop dp un gd cn cs L a ccd cl outer) (call (.ref 102) [.ref D, .int x tx, .int y ty, .int z tz]) Q E s := by
  k_fill
  intro dp un gd cn cs ad ccd cl outer A₀ base h₀ L m s Q E B F X N T hk hdp hun hret
  w_top off
  k_with_none
  refine wpAny_call ?_
  k_dflt cell_enter
  k_with "pyIter ref" => k_state (fun pre a b c => (a, b, c) = backF pre (x, y, z) ∧ a.natAbs < Lid pre.length ∧ b.natAbs < Lid pre.length ∧ c.natAbs < Lid pre.length) "x" "y" "z"
  k_with "state" => first | exact back_0 (by assumption) (by assumption) (by assumption) | exact back_2 (by assumption) (by assumption) (by assumption) (by assumption) (by assumption) | exact back_1 (by assumption) (by assumption) (by assumption) (by assumption) (by assumption) | exact back_3 (by assumption) (by assumption) (by assumption) (by assumption) (by assumption) (by assumption) | (exfalso; omega)
  k_steps
  all_goals exact back_end hret (by assumption) (by assumption) (by assumption)
end Mine
end
section
open PySem PySem.W PyProof.Rows
namespace Mine
theorem ints_cons {ws : List Value} {a : Int} {l : List Int} (h : IntsAre ws (a :: l)) : ∃ t ws', ws = .int a t :: ws' ∧ IntsAre ws' l := by
  cases h with
  | cons _ _ h' => exact ⟨_, _, rfl, h'⟩
theorem ints_nil {ws : List Value} (h : IntsAre ws []) : ws = [] := by cases h; rfl
end Mine
end
section
open PySem PySem.W PyProof.Rows
namespace Mine
/-- the word a run makes of a word -/
def runL (ns : List Int) (l : List Nat) : List Nat := ns.foldl (fun l n => ledL (n.fmod 3) l) l
theorem runL_snoc (ns : List Int) (n : Int) (l : List Nat) : runL (ns ++ [n]) l = ledL (n.fmod 3) (runL ns l) := by simp [runL]
theorem sentL_append (a b : List Nat) : sentL (a ++ b) = sentL a ++ sentL b := by simp [sentL]
theorem changedL_append (a b : List Nat) : changedL (a ++ b) = changedL a ++ changedL b := by simp [changedL]
theorem ledL_append (k : Int) (a b : List Nat) : ledL k (a ++ b) = ledL k a ++ ledL k b := by
  unfold ledL
  split
  · rw [changedL_append, sentL_append]
  · split
    · rw [sentL_append, changedL_append]
    · rw [sentL_append]
theorem runL_append (ns : List Int) : ∀ a b : List Nat, runL ns (a ++ b) = runL ns a ++ runL ns b := by
  unfold runL
  induction ns with
  | nil => intro a b; rfl
  | cons n ns ih => intro a b; rw [List.foldl_cons, ledL_append, ih]; rfl
theorem ledL_length (k : Int) (l : List Nat) : (ledL k l).length ≤ 2 * l.length := by
  unfold ledL
  have h1 := sentL_length (changedL l)
  have h2 := sentL_length l
  have h3 := changedL_length (sentL l)
  have h4 := changedL_length l
  split
  · omega
  · split <;> omega

theorem Tab.ext' {x y : Tab} (h1 : x.a = y.a) (h2 : x.b = y.b) (h3 : x.c = y.c) (h4 : x.d = y.d) : x = y := by
  cases x; cases y; simp_all
theorem mul_assoc' (x y z : Tab) : (x.mul y).mul z = x.mul (y.mul z) := by
  apply Tab.ext' <;> simp only [Tab.mul] <;> grind
theorem one_mul' (x : Tab) : Tab.one.mul x = x := by
  apply Tab.ext' <;> simp only [Tab.mul, Tab.one] <;> grind
theorem mul_one' (x : Tab) : x.mul Tab.one = x := by
  apply Tab.ext' <;> simp only [Tab.mul, Tab.one] <;> grind
theorem prodT_go (f g : Tab) (l : List Nat) : ∀ x : Tab, l.foldl (fun x c => x.mul (if c = 76 then f else g)) x = x.mul (prodT f g l) := by
  unfold prodT
  induction l with
  | nil => intro x; exact (mul_one' x).symm
  | cons c l ih =>
    intro x
    rw [List.foldl_cons, List.foldl_cons, ih, ih (Tab.one.mul _), one_mul', mul_assoc']
theorem prodT_cons (f g : Tab) (c : Nat) (l : List Nat) : prodT f g (c :: l) = (if c = 76 then f else g).mul (prodT f g l) := by
  show l.foldl _ (Tab.one.mul _) = _
  rw [prodT_go, one_mul']
theorem prodT_sent (f g : Tab) (l : List Nat) : prodT f g (sentL l) = prodT (f.mul g) g l := by
  induction l with
  | nil => rfl
  | cons c l ih =>
    rw [sentL_cons, prodT_cons]
    by_cases hc : c = 76
    · rw [if_pos hc, if_pos hc]
      show prodT f g (76 :: 83 :: sentL l) = _
      rw [prodT_cons, prodT_cons, ih, if_pos rfl, if_neg (by decide), mul_assoc']
    · rw [if_neg hc, if_neg hc]
      show prodT f g (83 :: sentL l) = _
      rw [prodT_cons, ih, if_neg (by decide)]
theorem prodT_changed (f g : Tab) (l : List Nat) : prodT f g (changedL l) = prodT g f l := by
  induction l with
  | nil => rfl
  | cons c l ih =>
    show prodT f g ((if c = 76 then 83 else 76) :: changedL l) = _
    rw [prodT_cons, prodT_cons, ih]
    by_cases hc : c = 76
    · rw [if_pos hc, if_pos hc, if_neg (by decide)]
    · rw [if_neg hc, if_neg hc, if_pos rfl]
def Tab.det (x : Tab) : Int := x.a * x.d - x.b * x.c
def Tab.tr (x : Tab) : Int := x.a + x.d
theorem det_mul {x y : Tab} (hx : x.det = 1) (hy : y.det = 1) : (x.mul y).det = 1 := by
  simp only [Tab.det, Tab.mul] at *
  grind
/-- the three sums of two tables -/
def sums (f g : Tab) : Int × Int × Int := (f.tr, g.tr, (f.mul g).tr)
/-- the two tables seen through one number's deed -/
def seen (k : Int) (f g : Tab) : Tab × Tab := if k = 1 then (g, f.mul g) else if k = 2 then (g.mul f, f) else (f.mul g, g)
theorem diag_led (k : Int) (f g : Tab) (l : List Nat) : diagI f g (ledL k l) = diagI (seen k f g).1 (seen k f g).2 l := by
  unfold diagI ledL seen
  split
  · rw [prodT_sent, prodT_changed]
  · split
    · rw [prodT_changed, prodT_sent]
    · rw [prodT_sent]
theorem seen_det (k : Int) {f g : Tab} (hf : f.det = 1) (hg : g.det = 1) : (seen k f g).1.det = 1 ∧ (seen k f g).2.det = 1 := by
  unfold seen
  split
  · exact ⟨hg, det_mul hf hg⟩
  · split
    · exact ⟨det_mul hg hf, hf⟩
    · exact ⟨det_mul hf hg, hg⟩
theorem seen_sums (n : Int) {f g : Tab} (hf : f.det = 1) (hg : g.det = 1) : sums (seen (n.fmod 3) f g).1 (seen (n.fmod 3) f g).2 = backT n (sums f g) := by
  unfold seen sums backT
  simp only [Tab.det] at hf hg
  by_cases h1 : n.fmod 3 = 1
  · have h2 : ¬ n.fmod 3 = 2 := by omega
    simp only [h1, if_true, Tab.tr, Tab.mul]
    refine Prod.ext ?_ (Prod.ext ?_ ?_)
    · rfl
    · rfl
    · show _ = _
      simp
      grind
  · by_cases h2 : n.fmod 3 = 2
    · simp only [h2, Tab.tr, Tab.mul]
      refine Prod.ext ?_ (Prod.ext ?_ ?_)
      · simp; grind
      · simp
      · simp; grind
    · simp only [h1, h2, if_false, Tab.tr, Tab.mul]
      refine Prod.ext ?_ (Prod.ext ?_ ?_)
      · rfl
      · rfl
      · show _ = _
        simp
        grind
theorem backF_cons (n : Int) (ns : List Int) (S : Int × Int × Int) : backF (n :: ns) S = backF ns (backT n S) := rfl
theorem diag_run (ns : List Int) : ∀ (f g : Tab), f.det = 1 → g.det = 1 →
    (diagI f g (runL ns [76]), diagI f g (runL ns [83]), diagI f g (runL ns [76, 83])) = backF ns.reverse (sums f g) := by
  have key : ∀ (rs : List Int) (f g : Tab), f.det = 1 → g.det = 1 →
      (diagI f g (runL rs.reverse [76]), diagI f g (runL rs.reverse [83]), diagI f g (runL rs.reverse [76, 83])) = backF rs (sums f g) := by
    intro rs
    induction rs with
    | nil =>
      intro f g hf hg
      show (diagI f g [76], diagI f g [83], diagI f g [76, 83]) = sums f g
      unfold diagI sums
      rw [prodT_cons, prodT_cons, prodT_cons, prodT_cons]
      show (((f.mul Tab.one).a + (f.mul Tab.one).d), ((g.mul Tab.one).a + (g.mul Tab.one).d), ((f.mul (g.mul Tab.one)).a + (f.mul (g.mul Tab.one)).d)) = _
      rw [mul_one', mul_one']
      rfl
    | cons n rs ih =>
      intro f g hf hg
      rw [List.reverse_cons, runL_snoc, runL_snoc, runL_snoc, diag_led, diag_led, diag_led, backF_cons]
      have hd := seen_det (n.fmod 3) hf hg
      rw [ih _ _ hd.1 hd.2, seen_sums n hf hg]
  intro f g hf hg
  have := key ns.reverse f g hf hg
  rw [List.reverse_reverse] at this
  exact this
/-- the statement's plain law -/
theorem plain_law (p q r s : Int) (ns : List Int) :
    (diagI ⟨1 + p * q, p, q, 1⟩ ⟨1, r, s, 1 + r * s⟩ (runL ns [76]), diagI ⟨1 + p * q, p, q, 1⟩ ⟨1, r, s, 1 + r * s⟩ (runL ns [83]), diagI ⟨1 + p * q, p, q, 1⟩ ⟨1, r, s, 1 + r * s⟩ (runL ns [76, 83])) =
      backF ns.reverse (2 + p * q, 2 + r * s, 2 + (p + r) * (q + s)) := by
  rw [diag_run ns _ _ (by simp only [Tab.det]; grind) (by simp only [Tab.det]; grind)]
  congr 1
  simp only [sums, Tab.tr, Tab.mul]
  refine Prod.ext ?_ (Prod.ext ?_ ?_)
  · show _ = _; simp; grind
  · show _ = _; simp; grind
  · show _ = _; simp; grind
end Mine
end
section
open PySem PySem.W PyProof.Rows
namespace Mine
/-- the words' list stands apart from the rest -/
abbrev Apt (I ax a1 a2 a3 a4 l : Nat) : Prop := I ≠ l ∧ ax ≠ l ∧ a4 ≠ l ∧ a3 ≠ l ∧ a2 ≠ l ∧ a1 ≠ l
/-- the ledger between two turns: the words, the numbers, the four cells -/
abbrev ledT (ax a1 a2 a3 a4 : Addr) (lo o3 o4 : Obj) (l : Addr) (X Y Z : Str) (t1 t2 t3 : Tok) (on oe : Obj) (nw : Nat) : List (Addr × Obj) :=
  [(l, W.listOf #[.str X t1, .str Y t2, .str Z t3] nw), (ax, lo), (a4, o4), (a3, o3), (a2, oe), (a1, on)]
abbrev mapT (rest : Str → Option Value) (l : Addr) : Str → Option Value := fun y => if y = Str.ofString "words" then some (Value.ref l) else rest y

theorem map_twice {rest : Str → Option Value} {l l' : Addr} : ∀ y, (if y = Str.ofString "words" then some (Value.ref l') else mapT rest l y) = mapT rest l' y := by
  intro y
  unfold mapT
  split <;> rfl
theorem led_eq {k : Int} {X : Str} {X' : Str} {W : List Nat} {r : List Int} (h : runL (k :: r) X.cps.toList = W) (hx : X' = ⟨(ledL (k.fmod 3) X.cps.toList).toArray⟩) : runL r X'.cps.toList = W := by
  rw [hx]; exact h
theorem led_len {k : Int} {X X' : Str} {n : Nat} (h : X.length * 2 ^ (n + 1) ≤ 128) (hx : X' = ⟨(ledL k X.cps.toList).toArray⟩) : X'.length * 2 ^ n ≤ 128 := by
  have h1 : X'.length ≤ 2 * X.length := by
    rw [hx]
    show (ledL k X.cps.toList).toArray.size ≤ 2 * X.cps.size
    rw [List.size_toArray, ← Array.length_toList]
    exact ledL_length _ _
  have h2 := Nat.mul_le_mul_right (2 ^ n) h1
  rw [Nat.pow_succ] at h
  have h3 : 2 * X.length * 2 ^ n = X.length * (2 ^ n * 2) := by
    rw [Nat.mul_comm 2, Nat.mul_assoc, Nat.mul_comm 2]
  omega
theorem len_small {a n : Nat} (h : a * 2 ^ n ≤ 128) : a ≤ 128 := Nat.le_trans (Nat.le_mul_of_pos_right _ (Nat.pow_pos (by decide))) h

theorem loop_ind {prog : Program} {w : World} {A : Around} {E : Value → Shared → Prop} {h₀ : Heap} {env : Env} {target : Expr} {body : List Stmt} {Q : Flow → Shared → Prop} {s : Shared} {I ax a1 a2 a3 a4 : Addr} {lo o3 o4 : Obj} {rest : Str → Option Value} {U V W : List Nat}
    (step : ∀ (n : Int) (tn : Tok) (r : List Itm) l X Y Z t1 t2 t3 on oe nw v0 v1, Apt I ax a1 a2 a3 a4 l → X.length ≤ 128 → Y.length ≤ 128 → Z.length ≤ 128 → on.data = .cell v0 → oe.data = .cell v1 →
      (∀ m' l' X' Y' Z' t1' t2' t3' on' oe' nw' v0' v1', (∀ y, m' y = mapT rest l' y) → Apt I ax a1 a2 a3 a4 l' → X' = ⟨(ledL (n.fmod 3) X.cps.toList).toArray⟩ → Y' = ⟨(ledL (n.fmod 3) Y.cps.toList).toArray⟩ → Z' = ⟨(ledL (n.fmod 3) Z.cps.toList).toArray⟩ → on'.data = .cell v0' → oe'.data = .cell v1' →
        ItemsRest prog w A E h₀ env target body Q s [(I, "list_iterator")] [(ax, lo)] r m' (ledT ax a1 a2 a3 a4 lo o3 o4 l' X' Y' Z' t1' t2' t3' on' oe' nw')) →
      ItemsRest prog w A E h₀ env target body Q s [(I, "list_iterator")] [(ax, lo)] (.val (.int n tn) :: r) (mapT rest l) (ledT ax a1 a2 a3 a4 lo o3 o4 l X Y Z t1 t2 t3 on oe nw))
    (done : ∀ l X Y Z t1 t2 t3 on oe nw v0 v1, Apt I ax a1 a2 a3 a4 l → X.length ≤ 128 → Y.length ≤ 128 → Z.length ≤ 128 → X.cps.toList = U → Y.cps.toList = V → Z.cps.toList = W → on.data = .cell v0 → oe.data = .cell v1 →
      ItemsRest prog w A E h₀ env target body Q s [(I, "list_iterator")] [(ax, lo)] [] (mapT rest l) (ledT ax a1 a2 a3 a4 lo o3 o4 l X Y Z t1 t2 t3 on oe nw)) :
    ∀ (vs : List Value) (ns : List Int), IntsAre vs ns → ∀ l X Y Z t1 t2 t3 on oe nw v0 v1, Apt I ax a1 a2 a3 a4 l → X.length * 2 ^ ns.length ≤ 128 → Y.length * 2 ^ ns.length ≤ 128 → Z.length * 2 ^ ns.length ≤ 128 → runL ns X.cps.toList = U → runL ns Y.cps.toList = V → runL ns Z.cps.toList = W → on.data = .cell v0 → oe.data = .cell v1 →
      ItemsRest prog w A E h₀ env target body Q s [(I, "list_iterator")] [(ax, lo)] (vs.map .val) (mapT rest l) (ledT ax a1 a2 a3 a4 lo o3 o4 l X Y Z t1 t2 t3 on oe nw) := by
  intro vs ns hI
  induction ns generalizing vs with
  | nil =>
    cases hI
    intro l X Y Z t1 t2 t3 on oe nw v0 v1 ap bx bY bz hx hy hz hn he
    exact done l X Y Z t1 t2 t3 on oe nw v0 v1 ap (len_small bx) (len_small bY) (len_small bz) hx hy hz hn he
  | cons n r ih =>
    obtain ⟨tn, ws, rfl, hI'⟩ := ints_cons hI
    intro l X Y Z t1 t2 t3 on oe nw v0 v1 ap bx bY bz hx hy hz hn he
    refine step n tn _ l X Y Z t1 t2 t3 on oe nw v0 v1 ap (len_small bx) (len_small bY) (len_small bz) hn he ?_
    intro m' l' X' Y' Z' t1' t2' t3' on' oe' nw' v0' v1' hm ap' eX eY eZ hn' he'
    have em : m' = mapT rest l' := funext hm
    rw [em]
    exact ih ws hI' l' X' Y' Z' t1' t2' t3' on' oe' nw' v0' v1' ap' (led_len bx eX) (led_len bY eY) (led_len bz eZ) (led_eq hx eX) (led_eq hy eY) (led_eq hz eZ) hn' he'
end Mine
end
section
open PySem PySem.W PyProof.Rows
namespace Mine
theorem numbers_are {ws : List Value} {ns : List Int} (h : IntsAre ws (List.map (fun k' => k'.fmod (10 ^ Int.toNat 6)) (List.take 6 ns) ++ List.drop (((List.map (fun k' : Int => k'.fmod (10 ^ 6)) (List.take 6 ns)).length : Int)).toNat [23, 105, 20, 63])) :
    ∃ a b c d r, IntsAre ws (a :: b :: c :: d :: r) ∧ r.length ≤ 2 := by
  match ns, h with
  | [], h => exact ⟨_, _, _, _, [], h, by decide⟩
  | [a], h => exact ⟨_, _, _, _, [], h, by decide⟩
  | [a, b], h => exact ⟨_, _, _, _, [], h, by decide⟩
  | [a, b, c], h => exact ⟨_, _, _, _, [], h, by decide⟩
  | [a, b, c, d], h => exact ⟨_, _, _, _, [], h, by decide⟩
  | [a, b, c, d, e], h => exact ⟨_, _, _, _, [_], h, by simp⟩
  | a :: b :: c :: d :: e :: f :: r, h => exact ⟨_, _, _, _, [_, _], h, by simp⟩
theorem end_is (n : Int) : IsEnd ([Str.ofString "\n", Str.ofString "\r", Str.ofString "\r\n"].getD ((n.fdiv 42).fmod 3).toNat Str.empty) := by
  have h1 : 0 ≤ (n.fdiv 42).fmod 3 := Int.fmod_nonneg_of_pos _ (by decide)
  have h2 : (n.fdiv 42).fmod 3 < 3 := Int.fmod_lt_of_pos _ (by decide)
  have h3 : ((n.fdiv 42).fmod 3).toNat = 0 ∨ ((n.fdiv 42).fmod 3).toNat = 1 ∨ ((n.fdiv 42).fmod 3).toNat = 2 := by omega
  rcases h3 with h | h | h <;> rw [h]
  · exact .inl (by decide +kernel)
  · exact .inr (.inl (by decide +kernel))
  · exact .inr (.inr (by decide +kernel))
theorem start_len {a n : Nat} (ha : a ≤ 2) (hn : n ≤ 2) : a * 2 ^ (n + 1 + 1 + 1 + 1) ≤ 128 := by
  have h1 : 2 ^ (n + 1 + 1 + 1 + 1) ≤ 2 ^ 6 := Nat.pow_le_pow_right (by decide) (by omega)
  have h2 := Nat.mul_le_mul ha h1
  omega
theorem part_small (n : Int) : (partI n).natAbs < 8 := by
  have h1 : 0 ≤ (n.fdiv 3).fmod 14 := Int.fmod_nonneg_of_pos _ (by decide)
  have h2 : (n.fdiv 3).fmod 14 < 14 := Int.fmod_lt_of_pos _ (by decide)
  unfold partI
  split <;> omega
theorem small_8 {b : Int} (h : b.natAbs < 8) : b.natAbs < 2 ^ 62 := by omega
theorem small_16 {b c : Int} (h : b.natAbs < 8) (h' : c.natAbs < 8) : (b + c).natAbs < 2 ^ 62 := by omega
theorem prod_small {a b : Int} {k : Nat} (ha : a.natAbs ≤ k) (hb : b.natAbs ≤ k) : (a * b).natAbs ≤ k * k := by
  rw [Int.natAbs_mul]
  exact Nat.mul_le_mul ha hb
theorem small_f {p q : Int} (hp : p.natAbs < 8) (hq : q.natAbs < 8) : (Tab.mk (1 + p * q) p q 1).small := by
  have := prod_small (k := 7) (a := p) (b := q) (by omega) (by omega)
  refine ⟨?_, small_8 hp, small_8 hq, (by decide : (1 : Int).natAbs < 2 ^ 62)⟩
  show (1 + p * q).natAbs < 2 ^ 62
  omega
theorem small_g {p q : Int} (hp : p.natAbs < 8) (hq : q.natAbs < 8) : (Tab.mk 1 p q (1 + p * q)).small := by
  have := prod_small (k := 7) (a := p) (b := q) (by omega) (by omega)
  refine ⟨(by decide : (1 : Int).natAbs < 2 ^ 62), small_8 hp, small_8 hq, ?_⟩
  show (1 + p * q).natAbs < 2 ^ 62
  omega
theorem small_x {p q : Int} (hp : p.natAbs < 8) (hq : q.natAbs < 8) : (2 + p * q).natAbs < 2 ^ 16 := by
  have := prod_small (k := 7) (a := p) (b := q) (by omega) (by omega)
  omega
theorem small_z {p q r s : Int} (hp : p.natAbs < 8) (hq : q.natAbs < 8) (hr : r.natAbs < 8) (hs : s.natAbs < 8) : (2 + (p + r) * (q + s)).natAbs < 2 ^ 16 := by
  have := prod_small (k := 14) (a := p + r) (b := q + s) (by omega) (by omega)
  omega
/-- a name for the sum of a word's tables -/
def DiagIs (D : Int → Int → Int → Int → List Nat → Int) : Prop := ∀ p q r s l, D p q r s l = diagI ⟨1 + p * q, p, q, 1⟩ ⟨1, r, s, 1 + r * s⟩ l
theorem diag_ex : ∃ D, DiagIs D := ⟨_, fun _ _ _ _ _ => rfl⟩
theorem told_is {D : Int → Int → Int → Int → List Nat → Int} {ns : List Int} {X Y Z : Str} (p q r s : Int) (hD : DiagIs D) (hx : X.cps.toList = runL ns [76]) (hy : Y.cps.toList = runL ns [83]) (hz : Z.cps.toList = runL ns [76, 83]) :
    backF ns.reverse (2 + p * q, 2 + r * s, 2 + (p + r) * (q + s)) = (D p q r s X.cps.toList, D p q r s Y.cps.toList, D p q r s Z.cps.toList) := by
  rw [hD, hD, hD, hx, hy, hz, plain_law]
theorem four_parts {ys : List Value} {n1 n2 n3 n4 : Int} {nr : List Int} (h : IntsAre ys (List.map partI (List.take 4 (n1 :: n2 :: n3 :: n4 :: nr)))) :
    ∃ p q r s t1 t2 t3 t4, ys = [.int p t1, .int q t2, .int r t3, .int s t4] ∧ p.natAbs < 8 ∧ q.natAbs < 8 ∧ r.natAbs < 8 ∧ s.natAbs < 8 := by
  obtain ⟨t1, w1, rfl, h1⟩ := ints_cons h
  obtain ⟨t2, w2, rfl, h2⟩ := ints_cons h1
  obtain ⟨t3, w3, rfl, h3⟩ := ints_cons h2
  obtain ⟨t4, w4, rfl, h4⟩ := ints_cons h3
  cases ints_nil h4
  exact ⟨_, _, _, _, _, _, _, _, rfl, part_small _, part_small _, part_small _, part_small _⟩
theorem third_is {ns : List Int} {X Y Z : Str} (hx : X.cps.toList = runL ns [76]) (hy : Y.cps.toList = runL ns [83]) (hz : Z.cps.toList = runL ns [76, 83]) : Z = X ++ Y := by
  apply Str.ext'
  apply Array.toList_inj.mp
  rw [hz, Str.cps_append, Array.toList_append, hx, hy, ← runL_append]
  rfl
section
variable {w : World} {mean : ExcName → Option Value} {mg mb : Str → Option Value} {dp un : Nat} {gd : Option (List Code)} {cn : Str} {cs : Scope} {a : Addr} {ccd : Value} {cl : List (Str × Addr)} {outer : List Env} {A₀ : Around} {base h₀ : Heap} {L : Addr} {m : Str → Option Value} {news : List (Addr × Obj)} {s : Shared} {x y e : Str} {k n : Int} {tk tk2 tk3 tk4 : Tok} {Q E : Value → Shared → Prop}
theorem led_use
    (B : Below A₀ base outer h₀) (F : Fr h₀ L s.heap m) (X : (hd.heap_39 w.params).In h₀) (N : News h₀ L s.heap news) (T : Top hd.view_39 (looseW hd.view_39 [Str.ofString "_twin_re_1", Str.ofString "_twin_re_2"]) mean mg mb h₀) (hk : cs.kind = .function)
    (hx : x.length ≤ 128) (he : IsEnd e) (hd : dp + 6 < recursionLimit) (hu : un + 40 < cLine)
    (ret : ∀ (y : Str) t h' tk', y = ⟨(ledL k x.cps.toList).toArray⟩ → Fr h₀ L h' m → News h₀ L h' news → Q (.str y t) { s with heap := h', toks := tk' }) :
    wpAny (model PySem.Challenge.rw_pg0011_01.row.prog w) (ktrTop dp un gd cn cs L a ccd cl outer) (call (.ref 81) [.str x tk, .int k tk2, .str e tk3]) Q E s :=
  led_claim w mean mg mb news x e k tk tk2 tk3 _ _ _ _ _ _ _ _ _ _ _ _ _ _ _ _ _ B F X N T hk ⟨Nat.le_trans hx (by decide), he⟩ hd hu fun t h' tk' F' N' => ret _ t h' tk' rfl F' N'
theorem addS_use
    (B : Below A₀ base outer h₀) (F : Fr h₀ L s.heap m) (X : (hd.heap_39 w.params).In h₀) (N : News h₀ L s.heap news) (T : Top hd.view_39 (looseW hd.view_39 [Str.ofString "_twin_re_1", Str.ofString "_twin_re_2"]) mean mg mb h₀) (hk : cs.kind = .function)
    (hx : x.length ≤ 128) (hy : y.length ≤ 128) (hd : dp + 4 < recursionLimit) (hu : un + 30 < cLine)
    (ret : ∀ t h' tk', Fr h₀ L h' m → News h₀ L h' news → Q (.str (x ++ y) t) { s with heap := h', toks := tk' }) :
    wpAny (model PySem.Challenge.rw_pg0011_01.row.prog w) (ktrTop dp un gd cn cs L a ccd cl outer) (call (.ref 55) [.str x tk, .str y tk2]) Q E s :=
  addS_claim w mean mg mb news x y tk tk2 _ _ _ _ _ _ _ _ _ _ _ _ _ _ _ _ _ B F X N T hk ⟨Nat.le_trans hx (by decide), Nat.le_trans hy (by decide)⟩ hd hu ret
theorem part_use
    (B : Below A₀ base outer h₀) (F : Fr h₀ L s.heap m) (X : (hd.heap_39 w.params).In h₀) (N : News h₀ L s.heap news) (T : Top hd.view_39 (looseW hd.view_39 [Str.ofString "_twin_re_1", Str.ofString "_twin_re_2"]) mean mg mb h₀) (hk : cs.kind = .function)
    (hd : dp + 4 < recursionLimit) (hu : un + 30 < cLine)
    (ret : ∀ t h' tk', Fr h₀ L h' m → News h₀ L h' news → Q (.int (partI n) t) { s with heap := h', toks := tk' }) :
    wpAny (model PySem.Challenge.rw_pg0011_01.row.prog w) (ktrTop dp un gd cn cs L a ccd cl outer) (call (.ref 95) [.int n tk]) Q E s :=
  part_claim w mean mg mb news n tk _ _ _ _ _ _ _ _ _ _ _ _ _ _ _ _ _ B F X N T hk trivial hd hu ret
theorem back_use {D : Addr} {vs : List Value} {ns : List Int} {x y z u1 u2 u3 : Int} {n0 : Nat}
    (B : Below A₀ base outer h₀) (F : Fr h₀ L s.heap m) (X : (hd.heap_39 w.params).In h₀) (N : News h₀ L s.heap news) (T : Top hd.view_39 (looseW hd.view_39 [Str.ofString "_twin_re_1", Str.ofString "_twin_re_2"]) mean mg mb h₀) (hk : cs.kind = .function)
    (hm : (D, W.listOf vs.toArray n0) ∈ news) (hI : IntsAre vs ns) (hl : ns.length ≤ 8) (hx : x.natAbs < 2 ^ 16) (hy : y.natAbs < 2 ^ 16) (hz : z.natAbs < 2 ^ 16) (hb : backF ns.reverse (x, y, z) = (u1, u2, u3)) (hd : dp + 6 < recursionLimit) (hu : un + 40 < cLine)
    (ret : ∀ D' t1 t2 t3 h' tk', Fr h₀ L h' m → News h₀ L h' ((D', W.listOf #[.int u1 t1, .int u2 t2, .int u3 t3] 0) :: news) → Q (.ref D') { s with heap := h', toks := tk' }) :
    wpAny (model PySem.Challenge.rw_pg0011_01.row.prog w) (ktrTop dp un gd cn cs L a ccd cl outer) (call (.ref 102) [.ref D, .int x tk, .int y tk2, .int z tk3]) Q E s :=
  back_claim0 w mean mg mb news D vs ns x y z n0 tk tk2 tk3 hI hl hx hy hz _ _ _ _ _ _ _ _ _ _ _ _ _ _ _ _ _ B F X
    (fun p hp => by
      rcases List.mem_cons.mp hp with e | hp
      · rw [e]; exact N _ hm
      · exact N p hp) T hk hd hu
    fun D' t1 t2 t3 h' tk' F' N' => ret D' t1 t2 t3 h' tk' F' fun p hp => N' p (by
      rw [hb]
      rcases List.mem_cons.mp hp with e | hp
      · rw [e]; exact .head _
      · exact .tail _ (.tail _ hp))
theorem diag_use {D1 D2 : Addr} {p q r s0 : Int} {u1 u2 u3 u4 v1 v2 v3 v4 : Tok} {n1 n2 : Nat} {D : Int → Int → Int → Int → List Nat → Int}
    (B : Below A₀ base outer h₀) (F : Fr h₀ L s.heap m) (X : (hd.heap_39 w.params).In h₀) (N : News h₀ L s.heap news) (T : Top hd.view_39 (looseW hd.view_39 [Str.ofString "_twin_re_1", Str.ofString "_twin_re_2"]) mean mg mb h₀) (hk : cs.kind = .function)
    (hm1 : (D1, ({ cls := .type "tuple", data := .seq #[.int (1 + p * q) u1, .int p u2, .int q u3, .int 1 u4] n1 } : Obj)) ∈ news) (hm2 : (D2, ({ cls := .type "tuple", data := .seq #[.int 1 v1, .int r v2, .int s0 v3, .int (1 + r * s0) v4] n2 } : Obj)) ∈ news)
    (hD : DiagIs D) (hx : x.length ≤ 128) (hp : p.natAbs < 8) (hq : q.natAbs < 8) (hr : r.natAbs < 8) (hs : s0.natAbs < 8) (hd : dp + 6 < recursionLimit) (hu : un + 40 < cLine)
    (ret : ∀ t h' tk', Fr h₀ L h' m → News h₀ L h' news → Q (.int (D p q r s0 x.cps.toList) t) { s with heap := h', toks := tk' }) :
    wpAny (model PySem.Challenge.rw_pg0011_01.row.prog w) (ktrTop dp un gd cn cs L a ccd cl outer) (call (.ref 88) [.str x tk, .ref D1, .ref D2]) Q E s :=
  diag_claim0 w mean mg mb news x (1 + p * q) p q 1 1 r s0 (1 + r * s0) D1 D2 tk u1 u2 u3 u4 v1 v2 v3 v4 n1 n2 _ _ _ _ _ _ _ _ _ _ _ _ _ _ _ _ _ B F X
    (fun p hp => by
      rcases List.mem_cons.mp hp with e | hp
      · rw [e]; exact N _ hm1
      · rcases List.mem_cons.mp hp with e | hp
        · rw [e]; exact N _ hm2
        · exact N p hp) T hk ⟨Nat.le_trans hx (by decide), small_f hp hq, small_g hr hs⟩ hd hu
    fun t h' tk' F' N' => by
      rw [← hD]
      exact ret t h' tk' F' fun p hp => N' p (.tail _ (.tail _ hp))
end
end Mine
end
section
open PySem PySem.W PyProof.Rows
namespace Mine
local macro_rules | `(tactic| walk_at "call ref") => `(tactic| (k_here; k_dflt (first
  | (refine' led_use ?k1 ?k2 ?k3 ?k4 ?k5 ?kK ?kx ?ke ?kd ?ku ?_; (case k1 => k_asm); (case k2 => k_asm); (case k3 => k_asm); (case k4 => k_asm); (case k5 => k_asm); (case kK => first | exact rfl | assumption); (case kx => assumption); (case ke => exact end_is _); (case kd => exact Nat.le_of_ble_eq_true rfl); (case ku => exact Nat.le_of_ble_eq_true rfl); intro y9 t9 h9 tk9 hy9 F9 N9; (try dsimp only); (try k_fold))
  | (refine' addS_use ?k1 ?k2 ?k3 ?k4 ?k5 ?kK ?kx ?ky ?kd ?ku ?_; (case k1 => k_asm); (case k2 => k_asm); (case k3 => k_asm); (case k4 => k_asm); (case k5 => k_asm); (case kK => first | exact rfl | assumption); (case kx => assumption); (case ky => assumption); (case kd => exact Nat.le_of_ble_eq_true rfl); (case ku => exact Nat.le_of_ble_eq_true rfl); intro t9 h9 tk9 F9 N9; (try dsimp only); (try k_fold))
  | (refine' part_use ?k1 ?k2 ?k3 ?k4 ?k5 ?kK ?kd ?ku ?_; (case k1 => k_asm); (case k2 => k_asm); (case k3 => k_asm); (case k4 => k_asm); (case k5 => k_asm); (case kK => first | exact rfl | assumption); (case kd => exact Nat.le_of_ble_eq_true rfl); (case ku => exact Nat.le_of_ble_eq_true rfl); intro t9 h9 tk9 F9 N9; (try dsimp only); (try k_fold))
  | (refine' back_use ?k1 ?k2 ?k3 ?k4 ?k5 ?kK ?km ?kI ?kl ?kx ?ky ?kz ?kb ?kd ?ku ?_; (case k1 => k_asm); (case k2 => k_asm); (case k3 => k_asm); (case k4 => k_asm); (case k5 => k_asm); (case kK => first | exact rfl | assumption); (case km => k_mem); (case kI => assumption); (case kl => assumption); (case kx => exact small_x (by assumption) (by assumption)); (case ky => exact small_x (by assumption) (by assumption)); (case kz => exact small_z (by assumption) (by assumption) (by assumption) (by assumption)); (case kb => exact told_is _ _ _ _ (by assumption) (by assumption) (by assumption) (by assumption)); (case kd => exact Nat.le_of_ble_eq_true rfl); (case ku => exact Nat.le_of_ble_eq_true rfl); intro D9 t9 t8 t7 h9 tk9 F9 N9; (try dsimp only); (try k_fold))
  | (refine' diag_use ?k1 ?k2 ?k3 ?k4 ?k5 ?kK ?km ?kn ?kD ?kx ?kp ?kq ?kr ?ks ?kd ?ku ?_; (case k1 => k_asm); (case k2 => k_asm); (case k3 => k_asm); (case k4 => k_asm); (case k5 => k_asm); (case kK => first | exact rfl | assumption); (case km => k_mem); (case kn => k_mem); (case kD => with_reducible assumption); (case kx => with_reducible assumption); (case kp => with_reducible assumption); (case kq => with_reducible assumption); (case kr => with_reducible assumption); (case ks => with_reducible assumption); (case kd => exact Nat.le_of_ble_eq_true rfl); (case ku => exact Nat.le_of_ble_eq_true rfl); intro t9 h9 tk9 F9 N9; (try dsimp only); (try k_fold)))))
local macro_rules | `(tactic| walk_at "binaryOp Mult int int") => `(tactic| (k_here; k_dflt ((refine' mul_small ?mb ?_); (case mb => first | exact small_8 (by assumption) | exact small_16 (by assumption) (by assumption)); k_whole)))
local macro_rules | `(tactic| walk_at "CompSrc") => `(tactic| (k_here; k_dflt (refine LCg.CompSrc.ledger (by rfl) (by k_asm) (by k_asm) (by k_mem) (by exact Nat.le_of_ble_eq_true rfl) ?_; intro g'; lcg_lit)))
local macro_rules | `(tactic| walk_at "CompEnd") => `(tactic| (refine LCg.CompEnd.intro (by assumption) (by assumption) _ (fun _ hp => hp) (by first | assumption | (simp only [LCg.Off3, and_true]; assumption)) (by lcg_src) ?_))
local macro_rules | `(tactic| walk_at "subscriptTail List") => `(tactic| (k_here; k_dflt (refine kba_turn (value' := PySem.Expr.Name (PySem.Str.ofString "_") ⟨0, 0, 0, 0⟩) (fun _ => rfl) ?_)))
local macro_rules | `(tactic| walk_at "subscriptTail Name Slice ref ref") => `(tactic| (k_here; (with_reducible show wpAny _ _ (subscriptTail _ (PySem.Expr.Slice (some _) none none _) (Value.ref _) (Value.ref _)) _ _ _); k_dflt (refine' kmk_slice_ints ?F ?N ?l ?p ?q ?i ?m ?c ?_ ?s ?t ?z; (case F => k_asm); (case N => k_asm); (case l => kmk_list); (case p => exact IsPart.int _ _); (case q => exact IsPart.none); (case i => l_ints); (case m => exact kmk_from (by l_ints) (Int.natCast_nonneg _)); (case c => exact List.length_drop ..); (case s => with_unfolding_all rfl); (case t => kmk_pure); (case z => exact Nat.le_of_ble_eq_true rfl)); intro D' ws' h' F' N' l1 hI' hC' hL'; (try k_lt l1); (try k_sweep)))
set_option maxHeartbeats 32000000 in
theorem law_holds : PySem.Challenge.rw_pg0011_01.Holds := hd (by
  w_top off
  k_with_none
  lgec_go0
  (all_goals try k_fold)
  k_with "table" => skip
  repeat' (first | (k_unfold; (try dsimp only)) | (lge_end; wrow_closeG) | (walk1) | (dsimp only; walk1) | (leave1; walk_say "STEP leave1"; try dsimp only) | wrow_closeG | fail "no step")
  (rename IntsAre _ (List.map _ _ ++ List.drop _ _) => hNum)
  obtain ⟨n1, n2, n3, n4, nr, hNs, hNr⟩ := numbers_are hNum
  clear hNum
  obtain ⟨DD, hDD⟩ := diag_ex
  (rename News _ _ _ [(_, W.listOf #[Value.str _ _, Value.str _ _, Value.str _ _] _), (_, W.listOf _ _), _, _, _, _, (_, _), (_, _), (_, _), (_, _)] => oN)
  ((rename Fr _ _ _ _ => lF'); (with_unfolding_all refine' For_turns lF' ?_; k_whole))
  walk1
  (rename Fr _ _ _ _ => lF2)
  have N2 := kst_newsOf (l' := [_, _, _, _, _, _]) oN (fun p hp => (SubL.mem (l := [_, _, _, _, _, _]) (by refine And.intro (.head _) (And.intro (.tail _ (.head _)) ?_); exact And.intro (.tail _ <| .tail _ <| .tail _ <| .tail _ <| .tail _ <| .tail _ <| .head _) (And.intro (.tail _ <| .tail _ <| .tail _ <| .tail _ <| .tail _ <| .tail _ <| .tail _ <| .head _) (And.intro (.tail _ <| .tail _ <| .tail _ <| .tail _ <| .tail _ <| .tail _ <| .tail _ <| .tail _ <| .head _) (And.intro (.tail _ <| .tail _ <| .tail _ <| .tail _ <| .tail _ <| .tail _ <| .tail _ <| .tail _ <| .tail _ <| .head _) trivial)))) p hp))
  with_unfolding_all refine iter_listTurns (by rfl) lF2 N2 (.tail _ (.head _)) (by rfl) (by rfl) ?_
  clear lF2 oN N2
  intro i' l1
  (try k_lt l1)
  k_dflt (refine' loop_ind (U := runL (n1 :: n2 :: n3 :: n4 :: nr) [76]) (V := runL (n1 :: n2 :: n3 :: n4 :: nr) [83]) (W := runL (n1 :: n2 :: n3 :: n4 :: nr) [76, 83]) ?step ?done _ _ hNs _ _ _ _ _ _ _ _ _ _ ?v0 ?v1 ?ap ?b1 ?b2 ?b3 ?c1 ?c2 ?c3 ?on ?oe)
  case on => assumption
  case oe => assumption
  case ap => (refine ⟨?_, ?_, ?_, ?_, ?_, ?_⟩; all_goals k_ne)
  case b1 => (show (Str.ofString "L").length * 2 ^ (nr.length + 1 + 1 + 1 + 1) ≤ 128; exact start_len (by decide +kernel) hNr)
  case b2 => (show (Str.ofString "S").length * 2 ^ (nr.length + 1 + 1 + 1 + 1) ≤ 128; exact start_len (by decide +kernel) hNr)
  case b3 => (show (Str.ofString "LS").length * 2 ^ (nr.length + 1 + 1 + 1 + 1) ≤ 128; exact start_len (by decide +kernel) hNr)
  case c1 => (refine congrArg _ ?_; decide +kernel)
  case c2 => (refine congrArg _ ?_; decide +kernel)
  case c3 => (refine congrArg _ ?_; decide +kernel)
  case step =>
    intro n tn r l X Y Z t1 t2 t3 on oe nw v0 v1 ⟨ap0, ap1, ap2, ap3, ap4, ap5⟩ hX hY hZ hon hoe ih
    dsimp only [mapT, ledT]
    repeat' (first | (k_unfold; (try dsimp only)) | ((fail_if_success (with_reducible show UnrEndW _ _ _ _ _ _)); first | (lge_end; wrow_closeG) | (walk1) | (dsimp only; walk1) | (leave1; walk_say "STEP leave1"; try dsimp only) | wrow_closeG))
    (rename Fr _ _ _ _ => lF3)
    (rename News _ _ _ _ => nN3)
    (rename (@Ne Nat _ _ ∧ _) => o3)
    obtain ⟨_, b2, _, b4, b5, b6, b7, b8⟩ := o3
    k_dflt (refine' UnrEndW.intro lF3 nN3 _ ?qhI ?qsub ?qoff (And.intro ?qkp (ih _ _ _ _ _ _ _ _ _ _ _ _ _ ?qm ?qap ?qx ?qy ?qz ?qon ?qoe)))
    case qm => exact map_twice
    case qhI => k_dflt k_subL
    case qsub => k_dflt k_subL
    case qap => exact ⟨b2, b4, b5, b6, b7, b8⟩
    case qx => assumption
    case qy => assumption
    case qz => assumption
    case qon => assumption
    case qoe => assumption
    case qkp => k_dflt k_subL
    case qoff => k_dflt ktu_offL
  case done =>
    have hNl : (n1 :: n2 :: n3 :: n4 :: nr).length ≤ 8 := by simp only [List.length_cons]; exact Nat.le_trans (Nat.add_le_add_right (Nat.add_le_add_right (Nat.add_le_add_right (Nat.add_le_add_right hNr 1) 1) 1) 1) (by decide)
    intro l X Y Z t1 t2 t3 on oe nw v0 v1 ⟨ap0, ap1, ap2, ap3, ap4, ap5⟩ hX hY hZ eX eY eZ hon hoe
    have e3 : (Z != X ++ Y) = false := by rw [third_is eX eY eZ]; exact bne_self_eq_false _
    dsimp only [mapT, ledT]
    repeat' (first | (k_unfold; (try dsimp only)) | ((fail_if_success (with_reducible show wpAny _ _ (assign (Expr.Tuple _ _ _) _ _) _ _ _)); first | (lge_end; wrow_closeG) | (walk1) | (dsimp only; walk1) | (leave1; walk_say "STEP leave1"; try dsimp only) | wrow_closeG))
    (rename IntsAre _ (List.map _ (List.take _ _)) => hP)
    obtain ⟨p, q, r, s, u1, u2, u3, u4, hys, hp, hq, hr, hs⟩ := four_parts hP
    subst hys
    clear hP
    repeat' (first | (k_unfold; (try dsimp only)) | (lge_end; wrow_closeG) | (walk1) | (dsimp only; walk1) | (leave1; walk_say "STEP leave1"; try dsimp only) | wrow_closeG))
end Mine
end
theorem PySem.Challenge.cw_pg0011_01_holds : PySem.Challenge.rw_pg0011_01.Holds :=
  Mine.law_holds
