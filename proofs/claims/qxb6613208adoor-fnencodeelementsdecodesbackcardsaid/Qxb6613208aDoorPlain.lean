/-
  THE PLAIN WORDS: what an element is, and a way of elements.
-/
import Derived.Test.Qxb6613208aDoorMem
namespace Go.Proofs.Qxb6613208aDoor
set_option linter.unusedVariables false

/-- a copy of l bytes from o back, its bytes B p .. B (q - 1) -/
def IsCopy (B : Nat → Nat) (p l o q : Nat) : Prop :=
  4 ≤ l ∧ l ≤ 64 ∧ 1 ≤ o ∧ o ≤ 65535 ∧
  ((l ≤ 11 ∧ o ≤ 2047 ∧ q = p + 2 ∧ B p = o / 256 * 32 + (l - 4) * 4 + 1 ∧ B (p + 1) = o % 256) ∨
   (q = p + 3 ∧ B p = (l - 1) * 4 + 2 ∧ B (p + 1) = o % 256 ∧ B (p + 2) = o / 256))

/-- a literal's head for l bytes, x bytes of length behind the tag -/
def IsHead (B : Nat → Nat) (p l x : Nat) : Prop :=
  1 ≤ l ∧ ((x = 0 ∧ l ≤ 60 ∧ B p = (l - 1) * 4) ∨ (1 ≤ x ∧ x ≤ 4 ∧ 61 ≤ l ∧ l - 1 < 256 ^ x ∧ B p = (59 + x) * 4 ∧ ∀ k, k < x → B (p + 1 + k) = (l - 1) / 256 ^ k % 256))

/-- a literal of l bytes, those of S from pos on -/
def IsLit (S B : Nat → Nat) (p pos l q : Nat) : Prop :=
  ∃ x, IsHead B p l x ∧ q = p + 1 + x + l ∧ ∀ k, k < l → B (p + 1 + x + k) = S (pos + k)

/-- one element: where it stands, where its bytes stand, whether the element before is a literal -/
def Step (S B : Nat → Nat) (s t : Nat × Nat × Bool) : Prop :=
  (∃ l, s.2.2 = false ∧ IsLit S B s.1 s.2.1 l t.1 ∧ t.2.1 = s.2.1 + l ∧ t.2.2 = true) ∨
  (∃ l o, IsCopy B s.1 l o t.1 ∧ o ≤ s.2.1 ∧ (∀ k, k < l → S (s.2.1 + k) = S (s.2.1 + k - o)) ∧ t.2.1 = s.2.1 + l ∧ t.2.2 = false)

/-- m elements in a row -/
def Steps (S B : Nat → Nat) : Nat → Nat × Nat × Bool → Nat × Nat × Bool → Prop
  | 0, s, t => s = t
  | m + 1, s, t => ∃ u, Step S B s u ∧ Steps S B m u t

theorem Step.lt {S B : Nat → Nat} {s t : Nat × Nat × Bool} (h : Step S B s t) : s.1 < t.1 ∧ s.2.1 < t.2.1 := by
  rcases h with ⟨l, _, ⟨x, ⟨h1, _⟩, h2, _⟩, h3, _⟩ | ⟨l, o, ⟨h1, _, _, _, h2⟩, _, _, h3, _⟩
  · exact ⟨by omega, by omega⟩
  · refine ⟨?_, by omega⟩
    rcases h2 with ⟨_, _, h2, _⟩ | ⟨h2, _⟩ <;> omega

theorem Step.frame {S B B' : Nat → Nat} {s t : Nat × Nat × Bool} (h : Step S B s t) (hB : ∀ k, s.1 ≤ k → k < t.1 → B' k = B k) : Step S B' s t := by
  rcases h with ⟨l, h0, ⟨x, ⟨h1, h5⟩, h2, h6⟩, h3, h4⟩ | ⟨l, o, ⟨h1, h5, h6, h7, h2⟩, h8, h9, h3, h4⟩
  · refine Or.inl ⟨l, h0, ⟨x, ⟨h1, ?_⟩, h2, fun k hk => ?_⟩, h3, h4⟩
    · rcases h5 with ⟨a, b, c⟩ | ⟨a, b, c, d, e, g⟩
      · exact Or.inl ⟨a, b, by rw [hB _ (by omega) (by omega)]; exact c⟩
      · exact Or.inr ⟨a, b, c, d, by rw [hB _ (by omega) (by omega)]; exact e, fun k hk => by rw [hB _ (by omega) (by omega)]; exact g k hk⟩
    · rw [hB _ (by omega) (by omega)]; exact h6 k hk
  · refine Or.inr ⟨l, o, ⟨h1, h5, h6, h7, ?_⟩, h8, h9, h3, h4⟩
    rcases h2 with ⟨a, b, c, d, e⟩ | ⟨a, b, c, d⟩
    · exact Or.inl ⟨a, b, c, by rw [hB _ (by omega) (by omega)]; exact d, by rw [hB _ (by omega) (by omega)]; exact e⟩
    · exact Or.inr ⟨a, by rw [hB _ (by omega) (by omega)]; exact b, by rw [hB _ (by omega) (by omega)]; exact c, by rw [hB _ (by omega) (by omega)]; exact d⟩

theorem Steps.le {S B : Nat → Nat} : ∀ {m : Nat} {s t : Nat × Nat × Bool}, Steps S B m s t → s.1 + m ≤ t.1 ∧ s.2.1 + m ≤ t.2.1
  | 0, s, t, h => by cases h; exact ⟨by omega, by omega⟩
  | m + 1, s, t, ⟨u, h1, h2⟩ => by
    have a := h1.lt
    have b := Steps.le h2
    exact ⟨by omega, by omega⟩

theorem Steps.frame {S B B' : Nat → Nat} : ∀ {m : Nat} {s t : Nat × Nat × Bool}, Steps S B m s t → (∀ k, s.1 ≤ k → k < t.1 → B' k = B k) → Steps S B' m s t
  | 0, s, t, h, _ => h
  | m + 1, s, t, ⟨u, h1, h2⟩, hB => by
    have a := h1.lt
    have b := Steps.le h2
    exact ⟨u, h1.frame (fun k k1 k2 => hB k k1 (by omega)), Steps.frame h2 (fun k k1 k2 => hB k (by omega) k2)⟩

theorem Steps.snoc {S B : Nat → Nat} : ∀ {m : Nat} {s t u : Nat × Nat × Bool}, Steps S B m s t → Step S B t u → Steps S B (m + 1) s u
  | 0, s, t, u, h, k => by cases h; exact ⟨u, k, rfl⟩
  | m + 1, s, t, u, ⟨v, h1, h2⟩, k => ⟨v, h1, Steps.snoc h2 k⟩

theorem Steps.trans {S B : Nat → Nat} : ∀ {m n : Nat} {s t u : Nat × Nat × Bool}, Steps S B m s t → Steps S B n t u → Steps S B (m + n) s u
  | 0, n, s, t, u, h, k => by cases h; rw [Nat.zero_add]; exact k
  | m + 1, n, s, t, u, ⟨v, h1, h2⟩, k => by
    rw [show m + 1 + n = m + n + 1 by omega]
    exact ⟨v, h1, Steps.trans h2 k⟩

/-- B' is B outside d .. e -/
def Only (B B' : Nat → Nat) (d e : Nat) : Prop := ∀ k, k < d ∨ e ≤ k → B' k = B k

theorem Only.refl (B : Nat → Nat) (d e : Nat) : Only B B d e := fun _ _ => rfl

theorem Only.trans {A B C : Nat → Nat} {d e g : Nat} (h : Only A B d e) (k : Only B C e g) (h1 : d ≤ e) (h2 : e ≤ g) : Only A C d g :=
  fun i hi => (k i (by omega)).trans (h i (by omega))

/-- emitting on: the way so far, then more behind it -/
theorem Steps.more {S A B : Nat → Nat} {m n d e g pos pos' pos'' : Nat} {la lb lc : Bool} (h : Steps S A m (d, pos, la) (e, pos', lb)) (k : Steps S B n (e, pos', lb) (g, pos'', lc)) (o : Only A B e g) : Steps S B (m + n) (d, pos, la) (g, pos'', lc) := by
  refine (h.frame fun i h1 h2 => o i (Or.inl ?_)).trans k
  exact h2

end Go.Proofs.Qxb6613208aDoor
