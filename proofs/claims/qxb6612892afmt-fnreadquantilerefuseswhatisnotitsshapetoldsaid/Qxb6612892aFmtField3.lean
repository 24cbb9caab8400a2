/-
  THE CONTRACT of (*protoMessage).field, whole.
-/
import Derived.Test.Qxb6612892aFmtField2
namespace Go.Proofs.Qxb6612892aFmt
open Go.RowKit
open Go.Extern.Stop Go.Stop Go.Extern
set_option linter.unusedVariables false

theorem vint_suffix : ∀ (f k : Nat) (v : Int) (l : List UInt8) (x : Int) (r : List UInt8), vint f k v l = some (x, r) → ∃ pre, l = pre ++ r
  | 0, _, _, _, _, _, h => by simp [vint] at h
  | _ + 1, _, _, [], _, _, h => by simp [vint] at h
  | f + 1, k, v, c :: t, x, r, h => by
    simp only [vint] at h
    split at h
    · split at h
      · cases h
      · simp at h; obtain ⟨_, rfl⟩ := h; exact ⟨[c], rfl⟩
    · obtain ⟨pre, rfl⟩ := vint_suffix f (k + 1) _ t x r h
      exact ⟨c :: pre, rfl⟩

theorem rs_suffix (s : ByteArray) (a e : Nat) (he : e ≤ s.size) (pre r : List UInt8) (h : rs s a e = pre ++ r) (hae : a ≤ e) : r = rs s (e - r.length) e := by
  have hl := congrArg List.length h
  rw [rs_len s a e he, List.length_append] at hl
  have h2 : r = (rs s a e).drop pre.length := by rw [h]; simp
  rw [show e - r.length = a + pre.length by omega]
  conv => lhs; rw [h2]
  unfold rs
  rw [List.drop_drop]

theorem c21 (F : Interp) (mb : Nat) (s : ByteArray) (at_ en : Nat) (w : World) (hF : F.answers w.tape) (hm : Msg w mb s at_ en) (hle : at_ ≤ en) (hs : en ≤ s.size) (hsz : s.size ≤ 1048576) :
    Calls Tryf.prog 21 #[.pointer (some ⟨mb, 0, none⟩)] w fun e w' => GOut mb s en w (field (rs s at_ en)) e w' := by
  unfold field
  cases ho : vint 10 0 0 (rs s at_ en) with
  | none => exact c21a F mb s at_ en w hF hm hle hs hsz ho
  | some x =>
    obtain ⟨tag, r⟩ := x
    have hrg := vint_range _ _ _ _ _ _ ho
    obtain ⟨pre, hpre⟩ := vint_suffix _ _ _ _ _ _ ho
    have hr := rs_suffix s at_ en hs pre r hpre hle
    have hrl : r.length ≤ en := by
      have := vint_len _ _ _ _ _ _ ho
      rw [rs_len s _ _ hs] at this
      omega
    have hmask := mask_u64 3 (by omega) tag hrg.1 hrg.2
    rw [show ((2 : Int) ^ 3 - 1) = 7 from by decide, show ((2 : Int) ^ 3) = 8 from by decide] at hmask
    simp only
    by_cases hz : tag / 8 = 0
    · rw [if_pos hz]
      exact c21b F mb s at_ en w tag r hF hm hle hs hsz ho hr hrl hrg.1 hrg.2 hz
    rw [if_neg hz]
    have hz' : (tag / 8 == 0) = false := beq_eq_false_iff_ne.2 hz
    by_cases h0 : tag % 8 = 0
    · rw [if_pos h0]
      exact c21w0 F mb s at_ en w tag r hF hm hle hs hsz ho hr hrl hrg.1 hrg.2 hz' (hmask.trans h0) _ rfl
    rw [if_neg h0]
    by_cases h1 : tag % 8 = 1
    · rw [if_pos h1]
      exact c21w1 F mb s at_ en w tag r hF hm hle hs hsz ho hr hrl hrg.1 hrg.2 hz' (hmask.trans h1) _ rfl
    rw [if_neg h1]
    by_cases h5 : tag % 8 = 5
    · rw [if_pos h5]
      exact c21w5 F mb s at_ en w tag r hF hm hle hs hsz ho hr hrl hrg.1 hrg.2 hz' (hmask.trans h5) _ rfl
    rw [if_neg h5]
    by_cases h2 : tag % 8 = 2
    · rw [if_pos h2]
      exact c21w2 F mb s at_ en w tag r hF hm hle hs hsz ho hr hrl hrg.1 hrg.2 hz' (hmask.trans h2) _ rfl
    rw [if_neg h2]
    exact c21d F mb s at_ en w tag r hF hm hle hs hsz ho hr hrl hrg.1 hrg.2 hz' (tag % 8) hmask (beq_eq_false_iff_ne.2 h0) (beq_eq_false_iff_ne.2 h1) (beq_eq_false_iff_ne.2 h5) (beq_eq_false_iff_ne.2 h2)

/-- what is left behind a field is a part of what was there -/
theorem field_suffix (s : ByteArray) (a e : Nat) (he : e ≤ s.size) (hae : a ≤ e) (n wi v : Int) (r : List UInt8) (h : field (rs s a e) = some (n, wi, v, r)) : r = rs s (e - r.length) e := by
  have key : ∃ pre, rs s a e = pre ++ r := by
    unfold field at h
    split at h
    · cases h
    · rename_i tag t ht
      obtain ⟨pre, hp⟩ := vint_suffix _ _ _ _ _ _ ht
      rw [hp]
      split at h
      · cases h
      split at h
      · split at h
        · cases h
        · rename_i v' r' hv; simp at h; obtain ⟨_, _, _, rfl⟩ := h
          obtain ⟨p2, rfl⟩ := vint_suffix _ _ _ _ _ _ hv
          exact ⟨pre ++ p2, by simp⟩
      split at h
      · split at h
        · cases h
        · rename_i v' r' hv; simp at h; obtain ⟨_, _, _, rfl⟩ := h
          unfold fixd at hv
          split at hv
          · cases hv
          · simp at hv; obtain ⟨_, rfl⟩ := hv
            exact ⟨pre ++ t.take 8, by simp⟩
      split at h
      · split at h
        · cases h
        · rename_i v' r' hv; simp at h; obtain ⟨_, _, _, rfl⟩ := h
          unfold fixd at hv
          split at hv
          · cases hv
          · simp at hv; obtain ⟨_, rfl⟩ := hv
            exact ⟨pre ++ t.take 4, by simp⟩
      split at h
      · split at h
        · cases h
        · rename_i r' hv; simp at h; obtain ⟨_, _, _, rfl⟩ := h
          unfold delim at hv
          split at hv
          · cases hv
          · rename_i n' u hu
            obtain ⟨p2, rfl⟩ := vint_suffix _ _ _ _ _ _ hu
            split at hv
            · cases hv
            · simp at hv; subst hv
              exact ⟨pre ++ p2 ++ u.take n'.toNat, by simp⟩
      · cases h
  obtain ⟨pre, hp⟩ := key
  exact rs_suffix s a e he pre r hp hae

end Go.Proofs.Qxb6612892aFmt
