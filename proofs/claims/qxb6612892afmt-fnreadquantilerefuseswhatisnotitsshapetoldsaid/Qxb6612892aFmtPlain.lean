/-
  THE READER OF A MESSAGE AS A PLAIN FUNCTION ON LISTS OF BYTES. No Go in sight.
-/
import Derived.Laws.BitsLemmas
import Derived.IntWalk
import Derived.Test.Qxb6612892aFmtNan
namespace Go.Proofs.Qxb6612892aFmt

/-- one byte of a varint -/
def vstep (v : Int) (k : Nat) (c : UInt8) : Int :=
  bits BinOp.or IntKind.u64 v (IntKind.u64.wrap (IntKind.u64.wrap (bits BinOp.and IntKind.u8 (c.toNat : Int) 127) * 2 ^ (7 * k)))

/-- a varint: the value and what is left -/
def vint : Nat → Nat → Int → List UInt8 → Option (Int × List UInt8)
  | 0, _, _, _ => none
  | _ + 1, _, _, [] => none
  | f + 1, k, v, c :: r => if c.toNat < 128 then (if k = 9 ∧ 1 < c.toNat then none else some (vstep v k c, r)) else vint f (k + 1) (vstep v k c) r

/-- one byte of a fixed value -/
def fstep (v : Int) (k : Nat) (c : UInt8) : Int :=
  bits BinOp.or IntKind.u64 v (IntKind.u64.wrap (IntKind.u64.wrap (c.toNat : Int) * 2 ^ (8 * k)))

def fold8 : Nat → Int → List UInt8 → Int
  | _, v, [] => v
  | k, v, c :: r => fold8 (k + 1) (fstep v k c) r

def fixd (n : Nat) (l : List UInt8) : Option (Int × List UInt8) :=
  if l.length < n then none else some (fold8 0 0 (l.take n), l.drop n)

/-- a length-delimited value: what is left -/
def delim (l : List UInt8) : Option (List UInt8) :=
  match vint 10 0 0 l with
  | none => none
  | some (n, r) => if (r.length : Int) < n then none else some (r.drop n.toNat)

/-- the number, the wire type, the value (of a fixed or varint field) and what is left -/
def field (l : List UInt8) : Option (Int × Int × Int × List UInt8) :=
  match vint 10 0 0 l with
  | none => none
  | some (tag, r) =>
    if tag / 8 = 0 then none
    else if tag % 8 = 0 then (match vint 10 0 0 r with | none => none | some (v, r') => some (tag / 8, 0, v, r'))
    else if tag % 8 = 1 then (match fixd 8 r with | none => none | some (v, r') => some (tag / 8, 1, v, r'))
    else if tag % 8 = 5 then (match fixd 4 r with | none => none | some (v, r') => some (tag / 8, 5, v, r'))
    else if tag % 8 = 2 then (match delim r with | none => none | some r' => some (tag / 8, 2, 0, r'))
    else none

/-- what the closure does with a field -/
def take1 (n wi v : Int) (q x : Nat) : Option (Nat × Nat) :=
  if n = 1 then (if wi = 1 then some (v.toNat, x) else none)
  else if n = 2 then (if wi = 1 then some (q, v.toNat) else none)
  else some (q, x)

def readL : Nat → List UInt8 → Nat → Nat → Option (Nat × Nat)
  | _, [], q, x => some (q, x)
  | 0, _ :: _, _, _ => none
  | f + 1, c :: r, q, x =>
    match field (c :: r) with
    | none => none
    | some (n, wi, v, l') =>
      match take1 n wi v q x with
      | none => none
      | some (q', x') => readL f l' q' x'

/-! ### shorter -/
theorem vint_len : ∀ (f k : Nat) (v : Int) (l : List UInt8) (x : Int) (r : List UInt8), vint f k v l = some (x, r) → r.length < l.length
  | 0, _, _, _, _, _, h => by simp [vint] at h
  | _ + 1, _, _, [], _, _, h => by simp [vint] at h
  | f + 1, k, v, c :: t, x, r, h => by
    simp only [vint] at h
    split at h
    · split at h
      · cases h
      · simp at h; obtain ⟨_, rfl⟩ := h; simp
    · have := vint_len f (k + 1) _ t x r h
      simp; omega

theorem fixd_len (n : Nat) (l : List UInt8) (x : Int) (r : List UInt8) (h : fixd n l = some (x, r)) : r.length = l.length - n ∧ n ≤ l.length := by
  unfold fixd at h
  split at h
  · cases h
  · simp at h; obtain ⟨_, rfl⟩ := h; simp; omega

theorem delim_len (l r : List UInt8) (h : delim l = some r) : r.length < l.length := by
  unfold delim at h
  split at h
  · cases h
  · rename_i n t ht
    split at h
    · cases h
    · simp at h; subst h
      have := vint_len _ _ _ _ _ _ ht
      simp; omega

theorem field_len (l : List UInt8) (n wi v : Int) (r : List UInt8) (h : field l = some (n, wi, v, r)) : r.length < l.length := by
  unfold field at h
  split at h
  · cases h
  · rename_i tag t ht
    have h1 := vint_len _ _ _ _ _ _ ht
    split at h
    · cases h
    split at h
    · split at h
      · cases h
      · rename_i v' r' hv; simp at h; obtain ⟨_, _, _, rfl⟩ := h
        have := vint_len _ _ _ _ _ _ hv; omega
    split at h
    · split at h
      · cases h
      · rename_i v' r' hv; simp at h; obtain ⟨_, _, _, rfl⟩ := h
        have := fixd_len _ _ _ _ hv; omega
    split at h
    · split at h
      · cases h
      · rename_i v' r' hv; simp at h; obtain ⟨_, _, _, rfl⟩ := h
        have := fixd_len _ _ _ _ hv; omega
    split at h
    · split at h
      · cases h
      · rename_i r' hv; simp at h; obtain ⟨_, _, _, rfl⟩ := h
        have := delim_len _ _ hv; omega
    · cases h

/-! ### more bytes behind -/
theorem vint_app : ∀ (f k : Nat) (v : Int) (l t : List UInt8) (x : Int) (r : List UInt8), vint f k v l = some (x, r) → vint f k v (l ++ t) = some (x, r ++ t)
  | 0, _, _, _, _, _, _, h => by simp [vint] at h
  | _ + 1, _, _, [], _, _, _, h => by simp [vint] at h
  | f + 1, k, v, c :: l, t, x, r, h => by
    simp only [vint, List.cons_append] at h ⊢
    split at h
    · rename_i hc
      rw [if_pos hc]
      split at h
      · cases h
      · rename_i hk
        rw [if_neg hk]
        simp at h; obtain ⟨rfl, rfl⟩ := h; rfl
    · rename_i hc
      rw [if_neg hc]
      exact vint_app f (k + 1) _ l t x r h

theorem fixd_app (n : Nat) (l t : List UInt8) (x : Int) (r : List UInt8) (h : fixd n l = some (x, r)) : fixd n (l ++ t) = some (x, r ++ t) := by
  have hl := fixd_len n l x r h
  unfold fixd at h ⊢
  rw [if_neg (by omega)] at h
  rw [if_neg (by simp; omega)]
  simp at h; obtain ⟨rfl, rfl⟩ := h
  rw [List.take_append_of_le_length hl.2, List.drop_append_of_le_length hl.2]

theorem delim_app (l t r : List UInt8) (h : delim l = some r) : delim (l ++ t) = some (r ++ t) := by
  unfold delim at h ⊢
  split at h
  · cases h
  · rename_i n u hu
    rw [vint_app _ _ _ _ t _ _ hu]
    split at h
    · cases h
    · rename_i hn
      simp at h; subst h
      simp only
      rw [if_neg (by simp; omega), List.drop_append_of_le_length (by omega)]

theorem field_app (l t : List UInt8) (n wi v : Int) (r : List UInt8) (h : field l = some (n, wi, v, r)) : field (l ++ t) = some (n, wi, v, r ++ t) := by
  unfold field at h ⊢
  split at h
  · cases h
  · rename_i tag u hu
    rw [vint_app _ _ _ _ t _ _ hu]
    simp only
    split at h
    · cases h
    rename_i h0
    rw [if_neg h0]
    split at h
    · rename_i h1
      rw [if_pos h1]
      split at h
      · cases h
      · rename_i v' r' hv; simp at h; obtain ⟨rfl, rfl, rfl, rfl⟩ := h
        rw [vint_app _ _ _ _ t _ _ hv]
    rename_i h1
    rw [if_neg h1]
    split at h
    · rename_i h2
      rw [if_pos h2]
      split at h
      · cases h
      · rename_i v' r' hv; simp at h; obtain ⟨rfl, rfl, rfl, rfl⟩ := h
        rw [fixd_app _ _ t _ _ hv]
    rename_i h2
    rw [if_neg h2]
    split at h
    · rename_i h3
      rw [if_pos h3]
      split at h
      · cases h
      · rename_i v' r' hv; simp at h; obtain ⟨rfl, rfl, rfl, rfl⟩ := h
        rw [fixd_app _ _ t _ _ hv]
    rename_i h3
    rw [if_neg h3]
    split at h
    · rename_i h4
      rw [if_pos h4]
      split at h
      · cases h
      · rename_i r' hv; simp at h; obtain ⟨rfl, rfl, rfl, rfl⟩ := h
        rw [delim_app _ t _ hv]
    · cases h

/-- enough fuel is enough -/
theorem readL_more : ∀ (f g : Nat) (l : List UInt8) (q x : Nat), l.length ≤ f → l.length ≤ g → readL f l q x = readL g l q x
  | 0, 0, [], _, _, _, _ => rfl
  | 0, _ + 1, [], _, _, _, _ => by simp [readL]
  | _ + 1, 0, [], _, _, _, _ => by simp [readL]
  | _ + 1, _ + 1, [], _, _, _, _ => by simp [readL]
  | 0, _, _ :: _, _, _, h, _ => by simp at h
  | _, 0, _ :: _, _, _, _, h => by simp at h
  | f + 1, g + 1, c :: r, q, x, hf, hg => by
    simp only [readL]
    split
    · rfl
    · rename_i n wi v l' hl
      have := field_len _ _ _ _ _ hl
      simp at this hf hg
      split
      · rfl
      · exact readL_more f g l' _ _ (by omega) (by omega)

theorem readL_app : ∀ (f : Nat) (l t : List UInt8) (q x q' x' : Nat), l.length + t.length ≤ f → readL f l q x = some (q', x') → readL f (l ++ t) q x = readL f t q' x'
  | f, [], t, q, x, q', x', hf, h => by
    cases f <;> (simp [readL] at h; obtain ⟨rfl, rfl⟩ := h; rfl)
  | 0, _ :: _, _, _, _, _, _, _, h => by simp [readL] at h
  | f + 1, c :: r, t, q, x, q', x', hf, h => by
    simp only [readL] at h
    split at h
    · cases h
    · rename_i n wi v l' hl
      have hlen := field_len _ _ _ _ _ hl
      simp at hlen hf
      split at h
      · cases h
      · rename_i q1 x1 ht
        have ih := readL_app f l' t q1 x1 q' x' (by omega) h
        have e : readL (f + 1) (c :: r ++ t) q x = readL f (l' ++ t) q1 x1 := by
          rw [List.cons_append]
          simp only [readL]
          have := field_app _ t _ _ _ _ hl
          rw [List.cons_append] at this
          rw [this]
          simp only
          rw [ht]
        rw [e, ih]
        exact readL_more f (f + 1) t _ _ (by omega) (by omega)

end Go.Proofs.Qxb6612892aFmt
