/- The plain mathematics: the greatest number of leading strings that all lists share. Nothing of the program here. -/
namespace Go.Proofs.Qxb6602794a

/-- Each of the first n lists has at least k strings, and its first k are those of list 0. -/
def Sh (n : Nat) (L : Nat → Nat) (S : Nat → Nat → ByteArray) (k : Nat) : Prop := ∀ i, i < n → k ≤ L i ∧ ∀ j, j < k → S i j = S 0 j

/-- c is the greatest such number; 0 where there is no list. -/
def Com (n : Nat) (L : Nat → Nat) (S : Nat → Nat → ByteArray) (c : Nat) : Prop := (n = 0 ∧ c = 0) ∨ (0 < n ∧ Sh n L S c ∧ ∀ k, Sh n L S k → k ≤ c)

theorem com_none (L : Nat → Nat) (S : Nat → Nat → ByteArray) : Com 0 L S 0 := Or.inl ⟨rfl, rfl⟩

theorem com_one (L : Nat → Nat) (S : Nat → Nat → ByteArray) : Com 1 L S (L 0) := by
  refine Or.inr ⟨by omega, fun i hi => ?_, fun k hk => (hk 0 (by omega)).1⟩
  obtain rfl : i = 0 := by omega
  exact ⟨Nat.le_refl _, fun _ _ => rfl⟩

theorem sh_less {n m : Nat} {L : Nat → Nat} {S : Nat → Nat → ByteArray} {k : Nat} (h : Sh n L S k) (hm : m ≤ n) : Sh m L S k := fun i hi => h i (by omega)

theorem com_step {n : Nat} {L : Nat → Nat} {S : Nat → Nat → ByteArray} {c j : Nat} (h : Com (n + 1) L S c) (h1 : j ≤ c) (h2 : j ≤ L (n + 1)) (h3 : ∀ i, i < j → S (n + 1) i = S 0 i)
    (h4 : j = c ∨ j = L (n + 1) ∨ S (n + 1) j ≠ S 0 j) : Com (n + 2) L S j := by
  rcases h with ⟨h, _⟩ | ⟨_, hs, hmax⟩
  · omega
  · refine Or.inr ⟨by omega, fun i hi => ?_, fun k hk => ?_⟩
    · by_cases e : i = n + 1
      · subst e; exact ⟨h2, h3⟩
      · have := hs i (by omega)
        exact ⟨by omega, fun q hq => this.2 q (by omega)⟩
    · have hc := hmax k (sh_less hk (by omega))
      have hl := hk (n + 1) (by omega)
      rcases Nat.lt_or_ge j k with hlt | hge
      · rcases h4 with h4 | h4 | h4
        · omega
        · omega
        · exact absurd (hl.2 j hlt) h4
      · exact hge

theorem com_le {n : Nat} {L : Nat → Nat} {S : Nat → Nat → ByteArray} {c : Nat} (h : Com n L S c) {i : Nat} (hi : i < n) : c ≤ L i := by
  rcases h with ⟨h, _⟩ | ⟨_, hs, _⟩
  · omega
  · exact (hs i hi).1

/-- f, then x at n. -/
def ext {α : Type} (n : Nat) (f : Nat → α) (x : α) : Nat → α := fun i => if i < n then f i else x

theorem ext_lt {α : Type} {n : Nat} {f : Nat → α} {x : α} {i : Nat} (h : i < n) : ext n f x i = f i := if_pos h
theorem ext_at {α : Type} {n : Nat} {f : Nat → α} {x : α} : ext n f x n = x := if_neg (Nat.lt_irrefl _)

theorem sh_ext {n : Nat} {L : Nat → Nat} {S : Nat → Nat → ByteArray} {xn : Nat} {X : Nat → ByteArray} {k : Nat} (hn : 0 < n) :
    Sh (n + 1) (ext n L xn) (ext n S X) k ↔ Sh n L S k ∧ k ≤ xn ∧ ∀ j, j < k → X j = S 0 j := by
  constructor
  · intro h
    refine ⟨fun i hi => ?_, ?_⟩
    · have := h i (by omega)
      rw [ext_lt hi, ext_lt hi, ext_lt hn] at this
      exact this
    · have := h n (by omega)
      rw [ext_at, ext_at, ext_lt hn] at this
      exact this
  · rintro ⟨h1, h2⟩ i hi
    rw [ext_lt hn]
    by_cases e : i = n
    · subst e; rw [ext_at, ext_at]; exact h2
    · rw [ext_lt (by omega), ext_lt (by omega)]; exact h1 i (by omega)

/-- The law, plain: one form more never lengthens what is common; it stays the same just where the new form begins with the common strings. -/
theorem another {n : Nat} {L : Nat → Nat} {S : Nat → Nat → ByteArray} {xn : Nat} {X : Nat → ByteArray} {c0 c1 : Nat} (hn : 0 < n) (h0 : Com n L S c0) (h1 : Com (n + 1) (ext n L xn) (ext n S X) c1) :
    c1 ≤ c0 ∧ (c1 = c0 ↔ c0 ≤ xn ∧ ∀ j, j < c0 → X j = S 0 j) := by
  rcases h0 with ⟨h0, _⟩ | ⟨_, s0, m0⟩
  · omega
  rcases h1 with ⟨h1, _⟩ | ⟨_, s1, m1⟩
  · omega
  have s1' := (sh_ext hn).1 s1
  refine ⟨m0 _ s1'.1, ?_, ?_⟩
  · rintro rfl
    exact s1'.2
  · intro h
    have := m1 c0 ((sh_ext hn).2 ⟨s0, h⟩)
    have := m0 _ s1'.1
    omega

theorem again {n : Nat} {L : Nat → Nat} {S : Nat → Nat → ByteArray} {c0 c1 : Nat} (hn : 0 < n) (h0 : Com n L S c0) (h1 : Com (n + 1) (ext n L (L 0)) (ext n S (S 0)) c1) : c1 = c0 :=
  (another hn h0 h1).2.2 ⟨com_le h0 hn, fun _ _ => rfl⟩

theorem alone {L : Nat → Nat} {S : Nat → Nat → ByteArray} {xn : Nat} {X : Nat → ByteArray} {c0 c1 : Nat} (h0 : Com 0 L S c0) (h1 : Com (0 + 1) (ext 0 L xn) (ext 0 S X) c1) : c0 = 0 ∧ c1 = xn := by
  rcases h0 with ⟨_, h0⟩ | ⟨h, _⟩
  · refine ⟨h0, ?_⟩
    have hone := com_one (ext 0 L xn) (ext 0 S X)
    rcases h1 with ⟨h1, _⟩ | ⟨_, s1, m1⟩
    · omega
    rcases hone with ⟨h, _⟩ | ⟨_, s2, m2⟩
    · omega
    have a := m2 _ s1
    have b := m1 _ s2
    have e : ext 0 L xn 0 = xn := ext_at
    omega
  · omega

/-- The other law, plain. -/
theorem greatest {n : Nat} {L : Nat → Nat} {S : Nat → Nat → ByteArray} {c : Nat} (hn : 0 < n) (h : Com n L S c) : Sh n L S c ∧ ¬ Sh n L S (c + 1) := by
  rcases h with ⟨h, _⟩ | ⟨_, s, m⟩
  · omega
  · exact ⟨s, fun h => by have := m _ h; omega⟩
end Go.Proofs.Qxb6602794a
