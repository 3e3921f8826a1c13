/-
  Seat b6002668a (flumeward): THE PLAIN LAW, no Go in sight: a scan of bytes that knows strings, escapes and brackets; what a written container does to it.
-/
namespace Go.Proofs.Qxb6002668a

/-- One byte of the scan. The first number: 0 between tokens, 1 in a string, 2 behind a backslash in a string; the second: how many brackets are open. None: this byte closes the outermost bracket. -/
def stp (s : Nat × Nat) (c : Int) : Option (Nat × Nat) :=
  if s.1 = 0 then
    if c = 34 then some (1, s.2)
    else if c = 123 ∨ c = 91 then some (0, s.2 + 1)
    else if c = 125 ∨ c = 93 then (if s.2 ≤ 1 then none else some (0, s.2 - 1))
    else some (0, s.2)
  else if s.1 = 1 then
    if c = 34 then some (0, s.2) else if c = 92 then some (2, s.2) else some (1, s.2)
  else some (1, s.2)

theorem stp_quote (d : Nat) : stp (0, d) 34 = some (1, d) := by simp [stp]
theorem stp_open (d : Nat) (c : Int) (h : c = 123 ∨ c = 91) : stp (0, d) c = some (0, d + 1) := by
  unfold stp; rw [if_pos rfl, if_neg (by omega), if_pos h]
theorem stp_shut (d : Nat) (c : Int) (h : c = 125 ∨ c = 93) (hd : 1 < d) : stp (0, d) c = some (0, d - 1) := by
  unfold stp; rw [if_pos rfl, if_neg (by omega), if_neg (by omega), if_pos h]; simp; omega
theorem stp_last (d : Nat) (c : Int) (h : c = 125 ∨ c = 93) (hd : d ≤ 1) : stp (0, d) c = none := by
  unfold stp; rw [if_pos rfl, if_neg (by omega), if_neg (by omega), if_pos h]; simp; omega
theorem stp_else (d : Nat) (c : Int) (h1 : ¬ c = 34) (h2 : ¬ (c = 123 ∨ c = 91)) (h3 : ¬ (c = 125 ∨ c = 93)) : stp (0, d) c = some (0, d) := by
  unfold stp; rw [if_pos rfl, if_neg h1, if_neg h2, if_neg h3]
theorem stp_strEnd (d : Nat) : stp (1, d) 34 = some (0, d) := by simp [stp]
theorem stp_back (d : Nat) : stp (1, d) 92 = some (2, d) := by simp [stp]
theorem stp_in (d : Nat) (c : Int) (h1 : ¬ c = 34) (h2 : ¬ c = 92) : stp (1, d) c = some (1, d) := by
  unfold stp; rw [if_neg (by simp), if_pos rfl, if_neg h1, if_neg h2]
theorem stp_esc (d : Nat) (c : Int) : stp (2, d) c = some (1, d) := by simp [stp]

def scan : List Int → Nat × Nat → Option (Nat × Nat)
  | [], s => some s
  | c :: r, s => (stp s c).bind (scan r)

theorem scan_one (c : Int) (s : Nat × Nat) : scan [c] s = stp s c := by
  simp only [scan]; cases stp s c <;> rfl

theorem scan_append (l m : List Int) (s : Nat × Nat) : scan (l ++ m) s = (scan l s).bind (scan m) := by
  induction l generalizing s with
  | nil => rfl
  | cons c r ih =>
    simp only [List.cons_append, scan]
    cases stp s c with
    | none => rfl
    | some t => exact ih t

theorem scan_snoc {l : List Int} {s t : Nat × Nat} {c : Int} (h : scan l s = some t) : scan (l ++ [c]) s = stp t c := by
  rw [scan_append, h]; exact scan_one c t

theorem scan_join {l m : List Int} {s t : Nat × Nat} (h : scan l s = some t) : scan (l ++ m) s = scan m t := by
  rw [scan_append, h]; rfl

theorem take_snoc (l : List Int) (k : Nat) (h : k < l.length) : l.take (k + 1) = l.take k ++ [l.getD k 0] := by
  rw [List.take_succ_eq_append_getElem h]
  simp [List.getD, h]

theorem scan_take {l : List Int} {s t : Nat × Nat} {k : Nat} (h : scan (l.take k) s = some t) (hk : k < l.length) : scan (l.take (k + 1)) s = stp t (l.getD k 0) := by
  rw [take_snoc l k hk]; exact scan_snoc h

/-- What has ended stays ended. -/
theorem scan_none_take {l : List Int} {s : Nat × Nat} {k j : Nat} (h : scan (l.take k) s = none) (hkj : k ≤ j) : scan (l.take j) s = none := by
  have e : l.take j = l.take k ++ (l.take j).drop k := by
    conv => lhs; rw [← List.take_append_drop k (l.take j)]
    rw [List.take_take, Nat.min_eq_left hkj]
  rw [e, scan_append, h]; rfl

/-- A written container: it opens, its last byte closes it, and no byte before does. -/
structure Closed (R : List Int) : Prop where
  two : 2 ≤ R.length
  head : R.getD 0 0 = 123 ∨ R.getD 0 0 = 91
  last : R.getD (R.length - 1) 0 = 125 ∨ R.getD (R.length - 1) 0 = 93
  body : scan (R.take (R.length - 1)) (0, 0) = some (0, 1)

/-- In a string the container's last byte is not yet reached. -/
theorem Closed.inside {R : List Int} (h : Closed R) {k m d : Nat} (hk : k ≤ R.length - 1) (hs : scan (R.take k) (0, 0) = some (m, d)) (hm : ¬ m = 0) : k + 1 < R.length := by
  by_cases e : k = R.length - 1
  · subst e; rw [h.body] at hs; simp at hs; omega
  · have := h.two; omega

/-- Between tokens: this byte does not close the container, so it is not the last. -/
theorem Closed.goes {R : List Int} (h : Closed R) {k d : Nat} (hk : k ≤ R.length - 1) (hs : scan (R.take k) (0, 0) = some (0, d)) (hc : ¬ (R.getD k 0 = 125 ∨ R.getD k 0 = 93)) : k + 1 < R.length := by
  by_cases e : k = R.length - 1
  · subst e; exact absurd h.last hc
  · have := h.two; omega

/-- A closing bracket at depth two or more: not the last. -/
theorem Closed.deeper {R : List Int} (h : Closed R) {k d : Nat} (hk : k ≤ R.length - 1) (hs : scan (R.take k) (0, 0) = some (0, d)) (hd : ¬ d = 1) : k + 1 < R.length := by
  by_cases e : k = R.length - 1
  · subst e; rw [h.body] at hs; simp at hs; omega
  · have := h.two; omega

/-- A closing bracket at depth one or none: the last, and at depth one. -/
theorem Closed.ends {R : List Int} (h : Closed R) {k d : Nat} (hk : k ≤ R.length - 1) (hs : scan (R.take k) (0, 0) = some (0, d)) (hc : R.getD k 0 = 125 ∨ R.getD k 0 = 93) (hd : d ≤ 1) : k + 1 = R.length ∧ d = 1 := by
  have h2 := h.two
  have e : k = R.length - 1 := by
    by_cases e : k = R.length - 1
    · exact e
    · have hn := scan_take hs (by omega : k < R.length)
      rw [stp_last d _ hc hd] at hn
      have := scan_none_take hn (by omega : k + 1 ≤ R.length - 1)
      rw [h.body] at this
      cases this
  subst e
  rw [h.body] at hs
  simp at hs
  omega

/-- Closing all that is open, innermost first, gives a closed container. 'cl': the closers, the outermost first. -/
theorem scan_closers (cl : List Int) (hcl : ∀ x ∈ cl, x = 125 ∨ x = 93) : ∀ j, 1 ≤ j → j ≤ cl.length → scan ((cl.drop j).reverse) (0, cl.length) = some (0, j) := by
  intro j h1 h2
  obtain ⟨m, hm⟩ : ∃ m, j + m = cl.length := ⟨cl.length - j, by omega⟩
  induction m generalizing j with
  | zero =>
    have : j = cl.length := by omega
    subst this
    simp [scan]
  | succ m ih =>
    have hj : j < cl.length := by omega
    have e : cl.drop j = cl[j] :: cl.drop (j + 1) := List.drop_eq_getElem_cons hj
    rw [e, List.reverse_cons, scan_snoc (ih (j + 1) (by omega) (by omega) (by omega))]
    rw [stp_shut _ _ (hcl _ (List.getElem_mem hj)) (by omega)]
    simp

theorem closed_of {l cl : List Int} (hl : 0 < l.length) (hhead : l.getD 0 0 = 123 ∨ l.getD 0 0 = 91) (hs : scan l (0, 0) = some (0, cl.length)) (h1 : 1 ≤ cl.length) (hcl : ∀ x ∈ cl, x = 125 ∨ x = 93) :
    Closed (l ++ cl.reverse) := by
  have hlen : (l ++ cl.reverse).length = l.length + cl.length := by simp
  have e0 : cl = cl[0] :: cl.drop 1 := by
    have := List.drop_eq_getElem_cons (l := cl) (i := 0) (by omega)
    simpa using this
  have e1 : l ++ cl.reverse = (l ++ (cl.drop 1).reverse) ++ [cl[0]] := by
    have : cl.reverse = (cl.drop 1).reverse ++ [cl[0]] := by
      conv => lhs; rw [e0]
      rw [List.reverse_cons]
    rw [this, List.append_assoc]
  have hl1 : (l ++ (cl.drop 1).reverse).length = l.length + cl.length - 1 := by simp; omega
  refine ⟨by omega, ?_, ?_, ?_⟩
  · simpa [List.getD, List.getElem?_append_left hl] using hhead
  · have hx := hcl cl[0] (List.getElem_mem (by omega))
    have : (l ++ cl.reverse).getD ((l ++ cl.reverse).length - 1) 0 = cl[0] := by
      rw [hlen, e1, List.getD, List.getElem?_append_right (by omega), hl1]
      simp
    rw [this]; exact hx
  · rw [hlen, e1, List.take_append_of_le_length (by omega), List.take_of_length_le (by omega), scan_join hs]
    exact scan_closers cl hcl 1 (Nat.le_refl _) h1

/-- THE SCAN AT PLACE j: the container R begins at place p; the bytes from p to j have been scanned; not yet its last byte. -/
def At (R : List Int) (p j m d : Nat) : Prop := p ≤ j ∧ j - p ≤ R.length - 1 ∧ scan (R.take (j - p)) (0, 0) = some (m, d)

theorem At.start (R : List Int) (p : Nat) : At R p p 0 0 := ⟨Nat.le_refl _, by omega, by simp [scan]⟩

theorem At.lt {R : List Int} {p j m d : Nat} (h : Closed R) (a : At R p j m d) : p ≤ j ∧ j < p + R.length := by
  have := h.two; obtain ⟨h1, h2, _⟩ := a; omega

theorem At.step {R : List Int} {p j m d m' d' : Nat} (a : At R p j m d) (hlt : j - p + 1 < R.length) (hst : stp (m, d) (R.getD (j - p) 0) = some (m', d')) : At R p (j + 1) m' d' := by
  obtain ⟨h1, h2, h3⟩ := a
  refine ⟨by omega, by omega, ?_⟩
  rw [show j + 1 - p = j - p + 1 by omega, scan_take h3 (by omega), hst]

theorem At.strEnd {R : List Int} {p j d : Nat} (h : Closed R) (a : At R p j 1 d) (hc : R.getD (j - p) 0 = 34) : At R p (j + 1) 0 d :=
  a.step (h.inside a.2.1 a.2.2 (by omega)) (by rw [hc]; exact stp_strEnd d)
theorem At.strIn {R : List Int} {p j d : Nat} (h : Closed R) (a : At R p j 1 d) (h1 : ¬ R.getD (j - p) 0 = 34) (h2 : ¬ R.getD (j - p) 0 = 92) : At R p (j + 1) 1 d :=
  a.step (h.inside a.2.1 a.2.2 (by omega)) (stp_in d _ h1 h2)
theorem At.strBack {R : List Int} {p j d : Nat} (h : Closed R) (a : At R p j 1 d) (hc : R.getD (j - p) 0 = 92) : At R p (j + 2) 1 d := by
  have b : At R p (j + 1) 2 d := a.step (h.inside a.2.1 a.2.2 (by omega)) (by rw [hc]; exact stp_back d)
  exact b.step (h.inside b.2.1 b.2.2 (by omega)) (stp_esc d _)
theorem At.quote {R : List Int} {p j d : Nat} (h : Closed R) (a : At R p j 0 d) (hc : R.getD (j - p) 0 = 34) : At R p (j + 1) 1 d :=
  a.step (h.goes a.2.1 a.2.2 (by rw [hc]; omega)) (by rw [hc]; exact stp_quote d)
theorem At.opens {R : List Int} {p j d : Nat} (h : Closed R) (a : At R p j 0 d) (hc : R.getD (j - p) 0 = 123 ∨ R.getD (j - p) 0 = 91) : At R p (j + 1) 0 (d + 1) :=
  a.step (h.goes a.2.1 a.2.2 (by omega)) (stp_open d _ hc)
theorem At.shuts {R : List Int} {p j d : Nat} (h : Closed R) (a : At R p j 0 d) (hc : R.getD (j - p) 0 = 125 ∨ R.getD (j - p) 0 = 93) (hd : 1 < d) : At R p (j + 1) 0 (d - 1) :=
  a.step (h.deeper a.2.1 a.2.2 (by omega)) (stp_shut d _ hc hd)
theorem At.ends {R : List Int} {p j d : Nat} (h : Closed R) (a : At R p j 0 d) (hc : R.getD (j - p) 0 = 125 ∨ R.getD (j - p) 0 = 93) (hd : d ≤ 1) : j + 1 = p + R.length ∧ d = 1 := by
  have := h.ends a.2.1 a.2.2 hc hd
  have := a.1
  omega
theorem At.other {R : List Int} {p j d : Nat} (h : Closed R) (a : At R p j 0 d) (h1 : ¬ R.getD (j - p) 0 = 34) (h2 : ¬ (R.getD (j - p) 0 = 123 ∨ R.getD (j - p) 0 = 91)) (h3 : ¬ (R.getD (j - p) 0 = 125 ∨ R.getD (j - p) 0 = 93)) : At R p (j + 1) 0 d :=
  a.step (h.goes a.2.1 a.2.2 h3) (stp_else d _ h1 h2 h3)
/-- The depth is at most the number of bytes scanned. -/
theorem scan_depth (l : List Int) (m d m' d' : Nat) (h : scan l (m, d) = some (m', d')) : d' ≤ d + l.length := by
  induction l generalizing m d with
  | nil => simp [scan] at h; simp; omega
  | cons c r ih =>
    simp only [scan, Option.bind_eq_some_iff] at h
    obtain ⟨⟨m1, d1⟩, h1, h2⟩ := h
    have := ih m1 d1 h2
    have hd : d1 ≤ d + 1 := by
      unfold stp at h1
      simp only at h1
      repeat' split at h1
      all_goals first | (simp at h1; omega) | cases h1
    simp only [List.length_cons]
    omega
theorem At.depth {R : List Int} {p j m d : Nat} (a : At R p j m d) : d ≤ R.length := by
  have := scan_depth _ _ _ _ _ a.2.2
  have h2 : (R.take (j - p)).length ≤ R.length := by simp; omega
  omega

end Go.Proofs.Qxb6002668a
