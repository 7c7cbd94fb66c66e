/- THE PLAIN LAW OF COUNTING GROUPS: no Go in sight. By an AI agent. -/
namespace Go.Proofs.Qxb6600907a
set_option linter.unusedSimpArgs false

/-- What the '(' ahead of r opens: 0 a look-around, 1 a named group, 2 any other group. -/
def pKind (r : List Int) : Int :=
  if r[0]? = some 63 then
    if r[1]? = some 61 ∨ r[1]? = some 33 then 0
    else if r[1]? = some 60 then
      if r[2]? = some 61 ∨ r[2]? = some 33 then 0 else 1
    else 2
  else 2

/-- The count of what is left: 'e': the next unit is escaped; 'cl': it stands in a class; 'g', 'nm': what was counted so far. -/
def cg : List Int → Bool → Bool → Int → Bool → Int × Bool
  | [], _, _, g, nm => (g, nm)
  | _ :: r, true, cl, g, nm => cg r false cl g nm
  | c :: r, false, cl, g, nm =>
    if c = 92 then cg r true cl g nm
    else if c = 91 then cg r false true g nm
    else if c = 93 then cg r false false g nm
    else if c = 40 ∧ cl = false then
      cg r false cl (if pKind r = 0 then g else g + 1) (if pKind r = 1 then true else nm)
    else cg r false cl g nm

theorem cg_nil (e cl : Bool) (g : Int) (nm : Bool) : cg [] e cl g nm = (g, nm) := by unfold cg; rfl
theorem cg_esc (c : Int) (r : List Int) (cl : Bool) (g : Int) (nm : Bool) : cg (c :: r) true cl g nm = cg r false cl g nm := by rw [cg]
theorem cg_bs (r : List Int) (cl : Bool) (g : Int) (nm : Bool) : cg (92 :: r) false cl g nm = cg r true cl g nm := by rw [cg]; simp
theorem cg_esc_drop (r : List Int) (cl : Bool) (g : Int) (nm : Bool) : cg r true cl g nm = cg (r.drop 1) false cl g nm := by
  cases r with
  | nil => simp [cg_nil]
  | cons c r => simp [cg_esc]
theorem cg_open (r : List Int) (cl : Bool) (g : Int) (nm : Bool) : cg (91 :: r) false cl g nm = cg r false true g nm := by rw [cg]; simp
theorem cg_shut (r : List Int) (cl : Bool) (g : Int) (nm : Bool) : cg (93 :: r) false cl g nm = cg r false false g nm := by rw [cg]; simp
theorem cg_par_in (r : List Int) (g : Int) (nm : Bool) : cg (40 :: r) false true g nm = cg r false true g nm := by rw [cg]; simp
theorem cg_par0 (r : List Int) (g : Int) (nm : Bool) (h : pKind r = 0) : cg (40 :: r) false false g nm = cg r false false g nm := by rw [cg]; simp [h]
theorem cg_par1 (r : List Int) (g : Int) (nm : Bool) (h : pKind r = 1) : cg (40 :: r) false false g nm = cg r false false (g + 1) true := by rw [cg]; simp [h]
theorem cg_par2 (r : List Int) (g : Int) (nm : Bool) (h : pKind r = 2) : cg (40 :: r) false false g nm = cg r false false (g + 1) nm := by rw [cg]; simp [h]
theorem cg_other (c : Int) (r : List Int) (cl : Bool) (g : Int) (nm : Bool) (h1 : c ≠ 92) (h2 : c ≠ 91) (h3 : c ≠ 93) (h4 : c ≠ 40) : cg (c :: r) false cl g nm = cg r false cl g nm := by
  rw [cg]; simp [h1, h2, h3, h4]

theorem pKind_cases (r : List Int) : pKind r = 0 ∨ pKind r = 1 ∨ pKind r = 2 := by
  unfold pKind
  repeat' split
  all_goals simp

/-- A ')' laid behind turns no kind. -/
theorem pKind_snoc (r : List Int) : pKind (r ++ [41]) = pKind r := by
  unfold pKind
  match r with
  | [] => simp
  | [a] => simp
  | [a, b] => simp
  | a :: b :: c :: r => simp

/-- A ')' laid behind turns no count. -/
theorem cg_snoc (xs : List Int) : ∀ (e cl : Bool) (g : Int) (nm : Bool), cg (xs ++ [41]) e cl g nm = cg xs e cl g nm := by
  induction xs with
  | nil =>
    intro e cl g nm
    cases e
    · show cg [41] false cl g nm = _
      rw [cg_other 41 [] cl g nm (by decide) (by decide) (by decide) (by decide)]
    · show cg [41] true cl g nm = _
      rw [cg_esc]
      simp [cg_nil]
  | cons c r ih =>
    intro e cl g nm
    cases e
    · show cg (c :: (r ++ [41])) false cl g nm = cg (c :: r) false cl g nm
      rw [cg, cg, pKind_snoc]
      simp only [ih]
    · show cg (c :: (r ++ [41])) true cl g nm = cg (c :: r) true cl g nm
      rw [cg_esc, cg_esc, ih]

/-- One group more at the start is one group more at the end. -/
theorem cg_succ (xs : List Int) : ∀ (e cl : Bool) (g : Int) (nm : Bool), cg xs e cl (g + 1) nm = ((cg xs e cl g nm).1 + 1, (cg xs e cl g nm).2) := by
  induction xs with
  | nil => intro e cl g nm; simp [cg_nil]
  | cons c r ih =>
    intro e cl g nm
    cases e
    · rw [cg, cg]
      by_cases h1 : c = 92
      · simp only [h1, if_true]; exact ih _ _ _ _
      by_cases h2 : c = 91
      · simp only [h1, h2, if_true, if_false]; exact ih _ _ _ _
      by_cases h3 : c = 93
      · simp only [h1, h2, h3, if_true, if_false]; exact ih _ _ _ _
      by_cases h4 : c = 40 ∧ cl = false
      · rw [if_neg h1, if_neg h2, if_neg h3, if_pos h4, if_neg h1, if_neg h2, if_neg h3, if_pos h4]
        by_cases h0 : pKind r = 0
        · rw [if_pos h0, if_pos h0]; exact ih _ _ _ _
        · rw [if_neg h0, if_neg h0]; exact ih _ _ _ _
      · rw [if_neg h1, if_neg h2, if_neg h3, if_neg h4, if_neg h1, if_neg h2, if_neg h3, if_neg h4]; exact ih _ _ _ _
    · rw [cg_esc, cg_esc]; exact ih _ _ _ _

/-- WRAPPED IN A PLAIN GROUP: one group more, 'named' as it was. -/
theorem cg_wrap (xs : List Int) (h : xs[0]? ≠ some 63) : cg (40 :: (xs ++ [41])) false false 0 false = ((cg xs false false 0 false).1 + 1, (cg xs false false 0 false).2) := by
  have hk : pKind (xs ++ [41]) = 2 := by
    rw [pKind_snoc]; unfold pKind; rw [if_neg h]
  rw [cg_par2 _ _ _ hk, cg_snoc, cg_succ]

/-- The count stays within the number of units. -/
theorem cg_bound (xs : List Int) : ∀ (e cl : Bool) (g : Int) (nm : Bool), g ≤ (cg xs e cl g nm).1 ∧ (cg xs e cl g nm).1 ≤ g + xs.length := by
  induction xs with
  | nil => intro e cl g nm; simp [cg_nil]
  | cons c r ih =>
    intro e cl g nm
    have hl : ((c :: r).length : Int) = r.length + 1 := by simp
    rw [hl]
    cases e
    · rw [cg]
      repeat' split
      · have := ih true cl g nm; omega
      · have := ih false true g nm; omega
      · have := ih false false g nm; omega
      · have := ih false cl g true; omega
      · have := ih false cl g nm; omega
      · have := ih false cl (g + 1) true; omega
      · have := ih false cl (g + 1) nm; omega
      · have := ih false cl g nm; omega
    · rw [cg_esc]; have := ih false cl g nm; omega

end Go.Proofs.Qxb6600907a
