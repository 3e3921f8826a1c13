/-
  Seat b6602804a (regroute): names of labels: the plain law, over the bytes as a function of their place. No Go in sight.
-/
namespace Go.Proofs.Qxb6602804a

/-- A lowercase letter, a digit or a hyphen. -/
def Ldh (c : Int) : Prop := (97 ≤ c ∧ c ≤ 122) ∨ (48 ≤ c ∧ c ≤ 57) ∨ c = 45

/-- The bytes from a to b are a label in order. -/
structure OkL (f : Nat → Int) (a b : Nat) : Prop where
  some : a < b
  short : b - a ≤ 63
  first : ¬ f a = 45
  last : ¬ f (b - 1) = 45
  third : ¬ (4 ≤ b - a ∧ f (a + 2) = 45 ∧ f (a + 3) = 45)
  all : ∀ i, a ≤ i → i < b → Ldh (f i)

/-- The bytes from a to b are one piece between dots (46) of the n bytes. -/
structure Piece (f : Nat → Int) (n a b : Nat) : Prop where
  le : a ≤ b
  top : b ≤ n
  plain : ∀ i, a ≤ i → i < b → ¬ f i = 46
  left : a = 0 ∨ f (a - 1) = 46
  right : b = n ∨ f b = 46

/-- Every piece is a label in order. -/
def Good (f : Nat → Int) (n : Nat) : Prop := ∀ a b, Piece f n a b → OkL f a b

/-- What holds where a piece begins at a: all pieces that end before a are in order. -/
structure Upto (f : Nat → Int) (n a : Nat) : Prop where
  left : a = 0 ∨ f (a - 1) = 46 ∨ a = n + 1
  done : ∀ a' b', Piece f n a' b' → b' < a → OkL f a' b'

theorem Upto.start (f : Nat → Int) (n : Nat) : Upto f n 0 := ⟨.inl rfl, fun _ _ _ h => by omega⟩

theorem Upto.next {f : Nat → Int} {n a b : Nat} (h : Upto f n a) (hp : Piece f n a b) (hok : OkL f a b) : Upto f n (b + 1) := by
  refine ⟨?_, fun a' b' hp' hlt => ?_⟩
  · rcases hp.right with e | e
    · right; right; omega
    · right; left; simpa using e
  · by_cases hb : b' < a
    · exact h.done a' b' hp' hb
    · have eb : b' = b := by
        by_cases e : b' = b
        · exact e
        · have h1 := hp.plain b' (by omega) (by omega)
          have h2 := hp.top
          rcases hp'.right with e2 | e2
          · omega
          · exact absurd e2 h1
      subst eb
      have ea : a' = a := by
        by_cases e : a' = a
        · exact e
        · have hle' := hp'.le
          by_cases hlt2 : a' < a
          · rcases hp.left with e2 | e2
            · omega
            · exact absurd e2 (hp'.plain (a - 1) (by omega) (by omega))
          · rcases hp'.left with e2 | e2
            · omega
            · exact absurd e2 (hp.plain (a' - 1) (by omega) (by omega))
      subst ea
      exact hok

theorem Upto.good {f : Nat → Int} {n a : Nat} (h : Upto f n a) (ha : n < a) : Good f n := fun a' b' hp => h.done a' b' hp (by have := hp.top; omega)

/-- A piece that begins at a and runs without a dot up to k has an end. -/
theorem piece_ends (f : Nat → Int) (n a : Nat) (hl : a = 0 ∨ f (a - 1) = 46) : ∀ m k, k + m = n → a ≤ k → (∀ i, a ≤ i → i < k → ¬ f i = 46) → ∃ b, k ≤ b ∧ Piece f n a b := by
  intro m
  induction m with
  | zero =>
    intro k hk hak hpl
    exact ⟨k, Nat.le_refl _, hak, by omega, hpl, hl, .inl (by omega)⟩
  | succ m ih =>
    intro k hk hak hpl
    by_cases hd : f k = 46
    · exact ⟨k, Nat.le_refl _, hak, by omega, hpl, hl, .inr hd⟩
    · obtain ⟨b, hb, hp⟩ := ih (k + 1) (by omega) (by omega) (fun i h1 h2 => by
        by_cases e : i = k
        · subst e; exact hd
        · exact hpl i h1 (by omega))
      exact ⟨b, by omega, hp⟩

/-- A byte that no label may hold. -/
theorem not_good_byte {f : Nat → Int} {n a k : Nat} (hl : a = 0 ∨ f (a - 1) = 46) (hak : a ≤ k) (hkn : k < n) (hpl : ∀ i, a ≤ i → i < k → ¬ f i = 46) (hk : ¬ f k = 46) (hbad : ¬ Ldh (f k)) : ¬ Good f n := by
  intro hg
  obtain ⟨b, hb, hp⟩ := piece_ends f n a hl (n - (k + 1)) (k + 1) (by omega) (by omega) (fun i h1 h2 => by
    by_cases e : i = k
    · subst e; exact hk
    · exact hpl i h1 (by omega))
  exact hbad ((hg a b hp).all k hak (by omega))

/-- The same label, its bytes counted from nought. -/
theorem okL_shift {f g : Nat → Int} {a b : Nat} (hab : a ≤ b) (h : ∀ i, i < b - a → g i = f (a + i)) : OkL g 0 (b - a) ↔ OkL f a b := by
  constructor
  · intro o
    have s1 := o.some
    refine ⟨by omega, by have := o.short; omega, ?_, ?_, ?_, ?_⟩
    · have := o.first; rw [h 0 s1] at this; simpa using this
    · have := o.last
      rw [h (b - a - 1) (by omega), show a + (b - a - 1) = b - 1 by omega] at this
      exact this
    · rintro ⟨h4, h2, h3⟩
      refine o.third ⟨by omega, ?_, ?_⟩
      · rw [show 0 + 2 = 2 from rfl, h 2 (by omega)]; exact h2
      · rw [show 0 + 3 = 3 from rfl, h 3 (by omega)]; exact h3
    · intro i h1 h2
      have := o.all (i - a) (by omega) (by omega)
      rw [h (i - a) (by omega), show a + (i - a) = i by omega] at this
      exact this
  · intro o
    have s1 := o.some
    refine ⟨by omega, by have := o.short; omega, ?_, ?_, ?_, ?_⟩
    · rw [h 0 (by omega)]; exact o.first
    · rw [h (b - a - 1) (by omega), show a + (b - a - 1) = b - 1 by omega]
      exact o.last
    · rintro ⟨h4, h2, h3⟩
      rw [show 0 + 2 = 2 from rfl, h 2 (by omega)] at h2
      rw [show 0 + 3 = 3 from rfl, h 3 (by omega)] at h3
      exact o.third ⟨by omega, h2, h3⟩
    · intro i h1 h2
      rw [h i (by omega)]
      exact o.all (a + i) (by omega) (by omega)

end Go.Proofs.Qxb6602804a
