/-
  THE PLAIN FUNCTIONS of the label-name laws: bytes, lists, numbers. No Go in sight.
-/
namespace Go.Proofs.Qxb6612892a.Lab

def startB (n : Int) : Bool := decide (97 ≤ n ∧ n ≤ 122) || decide (65 ≤ n ∧ n ≤ 90) || decide (n = 95)
def digB (n : Int) : Bool := decide (48 ≤ n ∧ n ≤ 57)
def byteB (n : Int) : Bool := startB n || digB n

def bAt (c : UInt8) : Bool := byteB (c.toNat : Int)

def allB (l : List UInt8) : Bool := l.all bAt

/-- a list of bytes is a label name -/
def isLab : List UInt8 → Bool
  | [] => false
  | c :: r => startB (c.toNat : Int) && r.all bAt

/-- what the scanner comes to -/
theorem isLab_take (l : List UInt8) (k : Nat) (h1 : 1 ≤ k) (hk : k < l.length) (hs : startB ((l[0]'(by omega)).toNat : Int) = true)
    (hb : bAt l[k] = false) : isLab l = false := by
  cases l with
  | nil => simp at hk
  | cons c r =>
    obtain ⟨m, rfl⟩ : ∃ m, k = m + 1 := ⟨k - 1, by omega⟩
    have hm : m < r.length := by simpa using hk
    rw [List.getElem_cons_succ] at hb
    have : r.all bAt = false := by
      rw [List.all_eq_false]
      exact ⟨r[m], List.getElem_mem _, by simp [hb]⟩
    simp [isLab, this]

theorem isLab_start (l : List UInt8) (h : 0 < l.length) (hs : startB ((l[0]'h).toNat : Int) = false) : isLab l = false := by
  cases l with
  | nil => simp at h
  | cons c r => simp [isLab]; intro h'; simp [h'] at hs

theorem isLab_all (l : List UInt8) (h : 0 < l.length) (hs : startB ((l[0]'h).toNat : Int) = true)
    (hb : ∀ j (hj : j < l.length), 1 ≤ j → bAt l[j] = true) : isLab l = true := by
  cases l with
  | nil => simp at h
  | cons c r =>
    simp [isLab]
    refine ⟨by simpa using hs, ?_⟩
    intro x hx
    obtain ⟨j, hj, rfl⟩ := List.getElem_of_mem hx
    have := hb (j + 1) (by simp; omega) (by omega)
    simpa using this

theorem isLab_append (a b : List UInt8) (h : a ≠ []) : isLab (a ++ b) = (isLab a && b.all bAt) := by
  cases a with
  | nil => exact absurd rfl h
  | cons c r => simp [isLab, List.all_append, Bool.and_assoc]

theorem isLab_under (b : List UInt8) : isLab (95 :: b) = b.all bAt := by
  simp [isLab, startB]

theorem isLab_one (c : UInt8) : isLab [c] = startB (c.toNat : Int) := by simp [isLab]

/-- the first law -/
theorem law_cut (a b : List UInt8) (h : a ≠ []) :
    (isLab (a ++ b) == (isLab a && isLab (95 :: b))) = true ∧ (isLab (95 :: b) == allB b) = true := by
  unfold allB; rw [isLab_under, isLab_append a b h]; simp

/-- one byte put in at a place -/
theorem one_bad (p q : List UInt8) (c : UInt8) (h1 : startB (c.toNat : Int) = false) (h2 : digB (c.toNat : Int) = false) : isLab (p ++ [c] ++ q) = false := by
  cases p with
  | nil => simp [isLab, h1]
  | cons x r => simp [isLab, List.all_append, bAt, byteB, h1, h2]

theorem one_in (p q : List UInt8) (c : UInt8) (hp : p ≠ []) (h : byteB (c.toNat : Int) = true) : isLab (p ++ [c] ++ q) = isLab (p ++ q) := by
  cases p with
  | nil => exact absurd rfl hp
  | cons x r => simp [isLab, List.all_append, bAt, h]

theorem one_dig (q : List UInt8) (c : UInt8) (h : startB (c.toNat : Int) = false) : isLab (c :: q) = false := by
  simp [isLab, h]

theorem one_start (q : List UInt8) (c : UInt8) (h : startB (c.toNat : Int) = true) : isLab (c :: q) = isLab (95 :: q) := by
  rw [isLab_under]; simp [isLab, h]

theorem not_both (n : Int) (h : digB n = true) : startB n = false := by
  simp [digB] at h
  simp [startB]
  omega

end Go.Proofs.Qxb6612892a.Lab
