/-
  Seat b6609191aD: lines, plain: what Feed and End give, byte by byte; the laws' own functions.
-/
namespace Go.Proofs.Qxb6609191aDoor

/-- CR or LF. -/
def isE (b : UInt8) : Bool := b == 13 || b == 10

/-- Feed: the lines, what is left, whether a CR is pending. -/
def fd : List UInt8 → Bool → List UInt8 → List (List UInt8) × List UInt8 × Bool
  | part, cr, [] => ([], part, cr)
  | part, cr, b :: p =>
    if b = 10 then (if cr then fd part false p else (part :: (fd [] false p).1, (fd [] false p).2))
    else if b = 13 then (part :: (fd [] true p).1, (fd [] true p).2)
    else fd (part ++ [b]) false p

theorem fd_skip (part p : List UInt8) : fd part true (10 :: p) = fd part false p := by simp [fd]

theorem fd_off (part : List UInt8) (b : UInt8) (p : List UInt8) (hb : b ≠ 10) : fd part true (b :: p) = fd part false (b :: p) := by
  simp [fd, hb]

/-- No ending. -/
theorem fd_none : ∀ (q part : List UInt8), (∀ b ∈ q, isE b = false) → fd part false q = ([], part ++ q, false)
  | [], part, _ => by simp [fd]
  | b :: q, part, h => by
    have hb := h b (by simp)
    simp only [isE, Bool.or_eq_false_iff, beq_eq_false_iff_ne] at hb
    rw [fd, if_neg hb.2, if_neg hb.1, fd_none q _ (fun c hc => h c (by simp [hc]))]
    simp

/-- Up to the first ending. -/
theorem fd_line : ∀ (q part : List UInt8) (c : UInt8) (r : List UInt8), (∀ b ∈ q, isE b = false) → isE c = true → fd part false (q ++ c :: r) = ((part ++ q) :: (fd [] (c == 13) r).1, (fd [] (c == 13) r).2)
  | [], part, c, r, _, hc => by
    simp only [isE, Bool.or_eq_true, beq_iff_eq] at hc
    rcases hc with rfl | rfl
    · simp [fd]
    · simp [fd]
  | b :: q, part, c, r, h, hc => by
    have hb := h b (by simp)
    simp only [isE, Bool.or_eq_false_iff, beq_eq_false_iff_ne] at hb
    rw [List.cons_append, fd, if_neg hb.2, if_neg hb.1, fd_line q _ c r (fun x hx => h x (by simp [hx])) hc]
    simp

/-- What follows the last ending. -/
def tr : List UInt8 → List UInt8 → List UInt8
  | acc, [] => acc
  | acc, b :: p => if isE b then tr [] p else tr (acc ++ [b]) p

theorem fd_tr : ∀ (p part : List UInt8) (cr : Bool), (cr = true → part = []) → (fd part cr p).2.1 = tr part p
  | [], part, cr, _ => rfl
  | b :: p, part, cr, h => by
    rw [fd, tr]
    by_cases h10 : b = 10
    · subst h10
      have he : isE 10 = true := by decide
      rw [if_pos rfl, he, if_pos (rfl : true = true)]
      cases cr with
      | true => rw [if_pos rfl, h rfl]; exact fd_tr p [] false (by simp)
      | false => rw [if_neg (by simp)]; exact fd_tr p [] false (by simp)
    · rw [if_neg h10]
      by_cases h13 : b = 13
      · subst h13
        have he : isE 13 = true := by decide
        rw [if_pos rfl, he, if_pos rfl]
        exact fd_tr p [] true (by simp)
      · rw [if_neg h13, if_neg (by simp [isE, h10, h13])]
        exact fd_tr p _ false (by simp)

/-- The stream with each ending written as LF. -/
def nm : Bool → List UInt8 → List UInt8
  | _, [] => []
  | cr, b :: p => if b = 10 then (if cr then nm false p else 10 :: nm false p) else if b = 13 then 10 :: nm true p else b :: nm false p

/-- The pieces of a text ended by LF. -/
def spl : List UInt8 → List UInt8 → List (List UInt8)
  | acc, [] => if acc.isEmpty then [] else [acc]
  | acc, b :: l => if b = 10 then acc :: spl [] l else spl (acc ++ [b]) l

/-- What End gives of what is left. -/
def ending (l : List UInt8) : List (List UInt8) := if l.isEmpty then [] else [l]

theorem fd_spl : ∀ (p part : List UInt8) (cr : Bool), spl part (nm cr p) = (fd part cr p).1 ++ ending (fd part cr p).2.1
  | [], part, cr => by simp only [fd, nm, spl, ending, List.nil_append]; rfl
  | b :: p, part, cr => by
    rw [fd, nm]
    by_cases h10 : b = 10
    · subst h10
      rw [if_pos rfl, if_pos rfl]
      cases cr with
      | true => rw [if_pos rfl, if_pos rfl]; exact fd_spl p part false
      | false => rw [if_neg (by simp), if_neg (by simp), spl, if_pos rfl, fd_spl p [] false]; rfl
    · rw [if_neg h10, if_neg h10]
      by_cases h13 : b = 13
      · subst h13
        rw [if_pos rfl, if_pos rfl, spl, if_pos rfl, fd_spl p [] true]; rfl
      · rw [if_neg h13, if_neg h13, spl, if_neg h10]
        exact fd_spl p _ false

/-- Unended bytes ahead. -/
theorem spl_part : ∀ (part acc l : List UInt8), (∀ b ∈ part, isE b = false) → spl acc (part ++ l) = spl (acc ++ part) l
  | [], acc, l, _ => by simp
  | b :: part, acc, l, h => by
    have hb := h b (by simp)
    simp only [isE, Bool.or_eq_false_iff, beq_eq_false_iff_ne] at hb
    rw [List.cons_append, spl, if_neg hb.2, spl_part part _ l (fun c hc => h c (by simp [hc]))]
    simp

/-- How many lines at most. -/
theorem fd_count : ∀ (p part : List UInt8) (cr : Bool), (fd part cr p).1.length ≤ p.length
  | [], part, cr => by simp [fd]
  | b :: p, part, cr => by
    rw [fd]
    by_cases h10 : b = 10
    · rw [if_pos h10]
      cases cr with
      | true => rw [if_pos rfl]; have := fd_count p part false; simp only [List.length_cons]; omega
      | false => rw [if_neg (by simp)]; have := fd_count p [] false; simp only [List.length_cons]; omega
    · rw [if_neg h10]
      by_cases h13 : b = 13
      · rw [if_pos h13]; have := fd_count p [] true; simp only [List.length_cons]; omega
      · rw [if_neg h13]; have := fd_count p (part ++ [b]) false; simp only [List.length_cons]; omega

theorem fd_left : ∀ (p part : List UInt8) (cr : Bool), (fd part cr p).2.1.length ≤ part.length + p.length
  | [], part, cr => by simp [fd]
  | b :: p, part, cr => by
    rw [fd]
    by_cases h10 : b = 10
    · rw [if_pos h10]
      cases cr with
      | true => rw [if_pos rfl]; have := fd_left p part false; simp only [List.length_cons]; omega
      | false => rw [if_neg (by simp)]; have := fd_left p [] false; simp only [List.length_cons, List.length_nil] at *; omega
    · rw [if_neg h10]
      by_cases h13 : b = 13
      · rw [if_pos h13]; have := fd_left p [] true; simp only [List.length_cons, List.length_nil] at *; omega
      · rw [if_neg h13]; have := fd_left p (part ++ [b]) false; simp only [List.length_cons, List.length_append, List.length_nil] at *; omega

end Go.Proofs.Qxb6609191aDoor
