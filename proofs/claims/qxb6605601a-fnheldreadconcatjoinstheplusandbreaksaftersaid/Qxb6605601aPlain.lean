namespace Go.Proofs.Qxb6605601a

/-- the pieces between the cuts: each number at 128 or above is a cut -/
def pieces (byt : Int → Int) (pre : List Int) : List Int → List (List Int)
  | [] => [pre]
  | c :: r => if 128 ≤ c then pre :: pieces byt [] r else pieces byt (pre ++ [byt c]) r

/-- the places of the cuts -/
def cutsAt (i : Nat) : List Int → List Nat
  | [] => []
  | c :: r => if 128 ≤ c then i :: cutsAt (i + 1) r else cutsAt (i + 1) r

theorem cutsAt_snoc (l : List Int) (c : Int) (i : Nat) : cutsAt i (l ++ [c]) = cutsAt i l ++ (if 128 ≤ c then [i + l.length] else []) := by
  induction l generalizing i with
  | nil => simp [cutsAt]
  | cons d r ih =>
    simp only [List.cons_append, cutsAt, ih]
    by_cases h : 128 ≤ d
    · simp only [h, if_true, List.cons_append, List.length_cons]
      rw [show i + 1 + r.length = i + (r.length + 1) by omega]
    · simp only [h, if_false, List.length_cons]
      rw [show i + 1 + r.length = i + (r.length + 1) by omega]

theorem cutsAt_length (l : List Int) (i : Nat) : (cutsAt i l).length ≤ l.length := by
  induction l generalizing i with
  | nil => simp [cutsAt]
  | cons d r ih =>
    have := ih (i + 1)
    simp only [cutsAt]
    by_cases h : 128 ≤ d <;> simp [h] <;> omega

/-- no cut is left -/
theorem pieces_last (byt : Int → Int) (l : List Int) (i : Nat) (pre : List Int) (h : cutsAt i l = []) : pieces byt pre l = [pre ++ l.map byt] := by
  induction l generalizing i pre with
  | nil => simp [pieces]
  | cons c r ih =>
    simp only [cutsAt] at h
    by_cases hc : 128 ≤ c
    · simp [hc] at h
    · simp only [hc, if_false] at h
      simp only [pieces, hc, if_false]
      rw [ih (i + 1) (pre ++ [byt c]) h]
      simp

/-- the next cut -/
theorem pieces_next (byt : Int → Int) (l : List Int) (i to : Nat) (cs : List Nat) (pre : List Int) (h : cutsAt i l = to :: cs) :
    i ≤ to ∧ to < i + l.length ∧ cs = cutsAt (to + 1) (l.drop (to + 1 - i)) ∧ pieces byt pre l = (pre ++ (l.take (to - i)).map byt) :: pieces byt [] (l.drop (to + 1 - i)) := by
  induction l generalizing i pre with
  | nil => simp [cutsAt] at h
  | cons c r ih =>
    simp only [cutsAt] at h
    by_cases hc : 128 ≤ c
    · simp only [hc, if_true, List.cons.injEq] at h
      obtain ⟨rfl, rfl⟩ := h
      refine ⟨Nat.le_refl _, by simp, ?_, ?_⟩
      · simp
      · simp [pieces, hc]
    · simp only [hc, if_false] at h
      obtain ⟨h1, h2, h3, h4⟩ := ih (i + 1) (pre ++ [byt c]) h
      refine ⟨by omega, by simp; omega, ?_, ?_⟩
      · rw [h3, show to + 1 - i = (to + 1 - (i + 1)) + 1 by omega, List.drop_succ_cons]
      · simp only [pieces, hc, if_false]
        rw [h4, show to + 1 - i = (to + 1 - (i + 1)) + 1 by omega, List.drop_succ_cons, show to - i = (to - (i + 1)) + 1 by omega, List.take_succ_cons]
        simp

theorem pieces_ne (byt : Int → Int) (l : List Int) (pre : List Int) : pieces byt pre l ≠ [] := by
  induction l generalizing pre with
  | nil => simp [pieces]
  | cons c r ih =>
    simp only [pieces]
    by_cases hc : 128 ≤ c
    · simp [hc]
    · simp only [hc, if_false]; exact ih _

theorem pieces_length (byt : Int → Int) (l : List Int) (pre : List Int) (i : Nat) : (pieces byt pre l).length = (cutsAt i l).length + 1 := by
  induction l generalizing pre i with
  | nil => simp [pieces, cutsAt]
  | cons c r ih =>
    simp only [pieces, cutsAt]
    by_cases hc : 128 ≤ c
    · simp only [hc, if_true, List.length_cons]; rw [ih [] (i + 1)]
    · simp only [hc, if_false]; exact ih _ _

/-- the run ends: it is kept where it holds a byte -/
def endRun {S : Type} (str : List Int → S) (T : List S) (R : List Int) : List S := if R = [] then T else T ++ [str R]

/-- a literal read into a reader: the texts and the run -/
def readLit {S : Type} (str : List Int → S) (byt : Int → Int) : List Int → List S → List Int → List S × List Int
  | [], T, R => (T, R)
  | c :: r, T, R => if 128 ≤ c then readLit str byt r (endRun str T R) [] else readLit str byt r T (R ++ [byt c])

/-- the texts of the pieces that hold a byte -/
def kept {S : Type} (str : List Int → S) (zs : List (List Int)) : List S := (zs.filter (fun z => !z.isEmpty)).map str

theorem kept_cons {S : Type} (str : List Int → S) (z : List Int) (zs : List (List Int)) : kept str (z :: zs) = (if z = [] then [] else [str z]) ++ kept str zs := by
  unfold kept
  cases z <;> simp

theorem kept_append {S : Type} (str : List Int → S) (a b : List (List Int)) : kept str (a ++ b) = kept str a ++ kept str b := by
  simp [kept]

theorem endRun_kept {S : Type} (str : List Int → S) (T : List S) (R : List Int) : endRun str T R = T ++ kept str [R] := by
  unfold endRun kept
  cases R <;> simp

/-- THE LAW OF A LITERAL -/
theorem readLit_eq {S : Type} (str : List Int → S) (byt : Int → Int) (l : List Int) (T : List S) (R : List Int) :
    readLit str byt l T R = (T ++ kept str ((pieces byt R l).dropLast), (pieces byt R l).getLast (pieces_ne byt l R)) := by
  induction l generalizing T R with
  | nil => simp [readLit, pieces, kept]
  | cons c r ih =>
    simp only [readLit, pieces]
    by_cases hc : 128 ≤ c
    · simp only [hc, if_true]
      rw [ih, endRun_kept, List.dropLast_cons_of_ne_nil (pieces_ne byt r []), kept_cons, List.getLast_cons (pieces_ne byt r [])]
      rw [kept_cons]
      simp [kept]
    · simp only [hc, if_false]
      rw [ih]

theorem readLit_append {S : Type} (str : List Int → S) (byt : Int → Int) (a b : List Int) (T : List S) (R : List Int) :
    readLit str byt (a ++ b) T R = readLit str byt b (readLit str byt a T R).1 (readLit str byt a T R).2 := by
  induction a generalizing T R with
  | nil => simp [readLit]
  | cons c r ih =>
    simp only [List.cons_append, readLit]
    by_cases hc : 128 ≤ c
    · simp only [hc, if_true]; exact ih _ _
    · simp only [hc, if_false]; exact ih _ _

theorem readLit_snoc {S : Type} (str : List Int → S) (byt : Int → Int) (l : List Int) (c : Int) (T : List S) (R : List Int) :
    readLit str byt (l ++ [c]) T R = if 128 ≤ c then (endRun str (readLit str byt l T R).1 (readLit str byt l T R).2, []) else ((readLit str byt l T R).1, (readLit str byt l T R).2 ++ [byt c]) := by
  rw [readLit_append]
  simp only [readLit]

/-- a run that ends behind a literal: every piece that holds a byte is kept -/
theorem readLit_end {S : Type} (str : List Int → S) (byt : Int → Int) (l : List Int) (T : List S) (R : List Int) :
    endRun str (readLit str byt l T R).1 (readLit str byt l T R).2 = T ++ kept str (pieces byt R l) := by
  rw [readLit_eq, endRun_kept]
  simp only [List.append_assoc]
  rw [← kept_append, List.dropLast_concat_getLast]

theorem endRun_len {S : Type} (str : List Int → S) (T : List S) (R : List Int) : (endRun str T R).length ≤ T.length + 1 := by
  unfold endRun
  by_cases h : R = [] <;> simp [h]
theorem readLit_len1 {S : Type} (str : List Int → S) (byt : Int → Int) (l : List Int) (T : List S) (R : List Int) : (readLit str byt l T R).1.length ≤ T.length + l.length := by
  induction l generalizing T R with
  | nil => simp [readLit]
  | cons c r ih =>
    simp only [readLit, List.length_cons]
    by_cases hc : 128 ≤ c
    · simp only [hc, if_true]
      have h1 := ih (endRun str T R) []
      have h2 := endRun_len str T R
      omega
    · simp only [hc, if_false]
      have h1 := ih T (R ++ [byt c])
      omega
theorem readLit_len2 {S : Type} (str : List Int → S) (byt : Int → Int) (l : List Int) (T : List S) (R : List Int) : (readLit str byt l T R).2.length ≤ R.length + l.length := by
  induction l generalizing T R with
  | nil => simp [readLit]
  | cons c r ih =>
    simp only [readLit, List.length_cons]
    by_cases hc : 128 ≤ c
    · simp only [hc, if_true]
      have h1 := ih (endRun str T R) []
      simp at h1
      omega
    · simp only [hc, if_false]
      have h1 := ih T (R ++ [byt c])
      simp at h1
      omega
end Go.Proofs.Qxb6605601a
