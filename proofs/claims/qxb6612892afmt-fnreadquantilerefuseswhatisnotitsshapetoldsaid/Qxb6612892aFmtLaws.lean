/-
  THE PLAIN LAWS: what the reader makes of the bytes that appendDouble writes.
-/
import Derived.Test.Qxb6612892aFmtAppend
import Derived.Test.Qxb6612892aFmtEach
namespace Go.Proofs.Qxb6612892aFmt
open Go.RowKit
set_option linter.unusedVariables false

theorem fold8_snoc : ∀ (l : List UInt8) (k : Nat) (v : Int) (c : UInt8), fold8 k v (l ++ [c]) = fstep (fold8 k v l) (k + l.length) c
  | [], k, v, c => rfl
  | a :: l, k, v, c => by
    show fold8 (k + 1) (fstep v k a) (l ++ [c]) = _
    rw [fold8_snoc l (k + 1) _ c]
    show _ = fstep (fold8 (k + 1) (fstep v k a) l) (k + (a :: l).length) c
    rw [show k + 1 + l.length = k + (a :: l).length by simp; omega]

theorem bits_or_comm (a b : Int) : bits BinOp.or IntKind.u64 a b = bits BinOp.or IntKind.u64 b a := by
  unfold bits
  simp only []
  rw [BitVec.or_comm]

theorem byteK_toNat (n : Nat) (k : Nat) : (byteK (n : Int) k).toNat = n / 2 ^ (8 * k) % 256 := by
  unfold byteK
  have e : ((n : Int) / 2 ^ (8 * k) % 256).toNat = n / 2 ^ (8 * k) % 256 := by
    have : ((n : Int) / 2 ^ (8 * k) % 256) = ((n / 2 ^ (8 * k) % 256 : Nat) : Int) := by simp
    rw [this]; rfl
  rw [e]
  simp

theorem fstep_byteK (n k : Nat) (hk : k ≤ 7) : fstep ((n % 2 ^ (8 * k) : Nat) : Int) k (byteK (n : Int) k) = ((n % 2 ^ (8 * (k + 1)) : Nat) : Int) := by
  unfold fstep
  rw [byteK_toNat]
  have hp : 0 < 2 ^ (8 * k) := Nat.two_pow_pos _
  have h256 : n / 2 ^ (8 * k) % 256 < 256 := Nat.mod_lt _ (by decide)
  have hmod : n % 2 ^ (8 * (k + 1)) = n % 2 ^ (8 * k) + 2 ^ (8 * k) * (n / 2 ^ (8 * k) % 256) := by
    rw [show 8 * (k + 1) = 8 * k + 8 by omega, Nat.pow_add]
    exact Nat.mod_mul
  have hle : 2 ^ (8 * k) * 256 ≤ 2 ^ 64 := by
    rw [show (256 : Nat) = 2 ^ 8 by decide, ← Nat.pow_add]
    exact Nat.pow_le_pow_right (by decide) (by omega)
  generalize hx : n / 2 ^ (8 * k) % 256 = x at h256 hmod
  have hy : n % 2 ^ (8 * k) < 2 ^ (8 * k) := Nat.mod_lt _ hp
  generalize hyy : n % 2 ^ (8 * k) = y at hy hmod
  have hx1 : x * 2 ^ (8 * k) < 2 ^ 64 := by
    have : x * 2 ^ (8 * k) < 256 * 2 ^ (8 * k) := Nat.mul_lt_mul_of_pos_right h256 hp
    omega
  have hw1 : IntKind.u64.wrap (x : Int) = (x : Int) := IntWalk.u64_in _ (by omega)
  have hc : ((x : Int) * 2 ^ (8 * k)) = ((x * 2 ^ (8 * k) : Nat) : Int) := by simp
  have hw2 : IntKind.u64.wrap ((x * 2 ^ (8 * k) : Nat) : Int) = ((x * 2 ^ (8 * k) : Nat) : Int) := IntWalk.u64_in _ (by
    have : x * 2 ^ (8 * k) < 18446744073709551616 := hx1
    omega)
  rw [hw1, hc, hw2, bits_or_comm]
  have hcast : ∀ m j : Nat, m < 2 ^ j → (m : Int) < 2 ^ j := fun m j h => by exact_mod_cast h
  have hy64 : y < 2 ^ 64 := Nat.lt_of_lt_of_le hy (Nat.pow_le_pow_right (by decide) (by omega))
  rw [bits_join .u64 64 (by decide) (fun n a b => u64_small 64 (by omega) n a b) (8 * k) _ _ (by omega) (by
    have : x * 2 ^ (8 * k) % 2 ^ (8 * k) = 0 := Nat.mul_mod_left _ _
    exact_mod_cast this) (hcast _ _ hx1) (by omega) (hcast _ _ hy) (hcast _ _ hy64)]
  rw [hmod, Nat.mul_comm x]
  omega

theorem fold8_dbl (n : Nat) : ∀ k, k ≤ 8 → fold8 0 0 (dbl (n : Int) k) = ((n % 2 ^ (8 * k) : Nat) : Int)
  | 0, _ => by simp [dbl, fold8, Nat.mod_one]
  | k + 1, h => by
    rw [dbl_succ, fold8_snoc, fold8_dbl n k (by omega), dbl_len, Nat.zero_add]
    exact fstep_byteK n k (by omega)

theorem fold8_all (b : Int) (h0 : 0 ≤ b) (h1 : b ≤ 18446744073709551615) : fold8 0 0 (dbl b 8) = b := by
  obtain ⟨n, rfl⟩ := Int.eq_ofNat_of_zero_le h0
  rw [fold8_dbl n 8 (by omega), Nat.mod_eq_of_lt (by show n < 18446744073709551616; omega)]

theorem fixd_dbl (b : Int) (h0 : 0 ≤ b) (h1 : b ≤ 18446744073709551615) (t : List UInt8) : fixd 8 (dbl b 8 ++ t) = some (b, t) := by
  unfold fixd
  have hl := dbl_len b 8
  rw [if_neg (by rw [List.length_append, hl]; omega)]
  rw [List.take_append_of_le_length (by omega), List.drop_append_of_le_length (by omega), List.take_of_length_le (by omega), List.drop_eq_nil_of_le (by omega), fold8_all b h0 h1]
  rfl

theorem vint9 (t : List UInt8) : vint 10 0 0 (9 :: t) = some (9, t) := by
  have e : vstep 0 0 9 = 9 := by decide +kernel
  simp [vint, e]
theorem vint17 (t : List UInt8) : vint 10 0 0 (17 :: t) = some (17, t) := by
  have e : vstep 0 0 17 = 17 := by decide +kernel
  simp [vint, e]
theorem vint8 (t : List UInt8) : vint 10 0 0 (8 :: t) = some (8, t) := by
  have e : vstep 0 0 8 = 8 := by decide +kernel
  simp [vint, e]
theorem vint21 (t : List UInt8) : vint 10 0 0 (21 :: t) = some (21, t) := by
  have e : vstep 0 0 21 = 21 := by decide +kernel
  simp [vint, e]
theorem vint1 (t : List UInt8) : vint 10 0 0 (1 :: t) = some (1, t) := by
  have e : vstep 0 0 1 = 1 := by decide +kernel
  simp [vint, e]

theorem field9 (b : Int) (h0 : 0 ≤ b) (h1 : b ≤ 18446744073709551615) (t : List UInt8) : field (9 :: dbl b 8 ++ t) = some (1, 1, b, t) := by
  unfold field
  rw [List.cons_append, vint9]
  simp only
  rw [if_neg (by decide), if_neg (by decide), if_pos (by decide), fixd_dbl b h0 h1]
  rfl

theorem field17 (b : Int) (h0 : 0 ≤ b) (h1 : b ≤ 18446744073709551615) (t : List UInt8) : field (17 :: dbl b 8 ++ t) = some (2, 1, b, t) := by
  unfold field
  rw [List.cons_append, vint17]
  simp only
  rw [if_neg (by decide), if_neg (by decide), if_pos (by decide), fixd_dbl b h0 h1]
  rfl

theorem rd9 (b : Int) (h0 : 0 ≤ b) (h1 : b ≤ 18446744073709551615) (t : List UInt8) (q x : Nat) : rd (9 :: dbl b 8 ++ t) q x = rd t b.toNat x :=
  rd_ok _ _ _ (by simp) 1 1 b t _ _ (field9 b h0 h1 t) rfl

theorem rd17 (b : Int) (h0 : 0 ≤ b) (h1 : b ≤ 18446744073709551615) (t : List UInt8) (q x : Nat) : rd (17 :: dbl b 8 ++ t) q x = rd t q b.toNat :=
  rd_ok _ _ _ (by simp) 2 1 b t _ _ (field17 b h0 h1 t) rfl

/-- the doubles in either order -/
def tailB (q v : Int) : List UInt8 := (9 :: dbl q 8) ++ (17 :: dbl v 8)
def swapB (q v : Int) : List UInt8 := (17 :: dbl v 8) ++ (9 :: dbl q 8)

theorem rd_tail (q v : Int) (h0 : 0 ≤ q) (h1 : q ≤ 18446744073709551615) (h2 : 0 ≤ v) (h3 : v ≤ 18446744073709551615) (a b : Nat) : rd (tailB q v) a b = some (q.toNat, v.toNat) := by
  unfold tailB
  rw [rd9 q h0 h1]
  have := rd17 v h2 h3 [] q.toNat b
  rw [List.append_nil] at this
  rw [this, rd_nil]

theorem rd_swap (q v : Int) (h0 : 0 ≤ q) (h1 : q ≤ 18446744073709551615) (h2 : 0 ≤ v) (h3 : v ≤ 18446744073709551615) (a b : Nat) : rd (swapB q v) a b = some (q.toNat, v.toNat) := by
  unfold swapB
  rw [rd17 v h2 h3]
  have := rd9 q h0 h1 [] a v.toNat
  rw [List.append_nil] at this
  rw [this, rd_nil]

theorem rd_one (q : Int) (h0 : 0 ≤ q) (h1 : q ≤ 18446744073709551615) (a b : Nat) : rd (9 :: dbl q 8) a b = some (q.toNat, b) := by
  have := rd9 q h0 h1 [] a b
  rw [List.append_nil] at this
  rw [this, rd_nil]

theorem rd_varint (a b : Nat) : rd [8, 1] a b = none := by
  refine rd_bad _ _ _ (by simp) 1 0 1 [] ?_ rfl
  unfold field
  rw [vint8]
  simp only
  rw [if_neg (by decide), if_pos (by decide), vint1]
  rfl

theorem rd_fixed32 (a b : Nat) : rd [21, 0, 0, 0, 0] a b = none := by
  have hf : fixd 4 [0, 0, 0, 0] = some (0, []) := by decide +kernel
  refine rd_bad _ _ _ (by simp) 2 5 0 [] ?_ rfl
  unfold field
  rw [vint21]
  simp only
  rw [if_neg (by decide), if_neg (by decide), if_neg (by decide), if_pos (by decide), hf]
  rfl

theorem rd_app (l t : List UInt8) (q x q' x' : Nat) (h : rd l q x = some (q', x')) : rd (l ++ t) q x = rd t q' x' := by
  unfold rd at h ⊢
  rw [readL_more l.length (l.length + t.length) l q x (by omega) (by omega)] at h
  have := readL_app (l.length + t.length) l t q x q' x' (by omega) h
  rw [List.length_append, this]
  exact readL_more _ _ _ _ _ (by omega) (by omega)

/-- bytes put in at the end of a body -/
theorem rs_longer (s t : ByteArray) (a e : Nat) (hae : a ≤ e) (he : e ≤ s.size) :
    rs (s.extract 0 e ++ t ++ s.extract e s.size) a (e + t.size) = rs s a e ++ t.data.toList := by
  unfold rs
  have h1 : (s.extract 0 e ++ t ++ s.extract e s.size).data.toList = s.data.toList.take e ++ (t.data.toList ++ s.data.toList.drop e) := by
    simp [Array.toList_extract, List.extract]
    exact List.take_of_length_le (by simp)
  have hl : (s.data.toList.take e).length = e := by
    rw [List.length_take]
    have : s.data.toList.length = s.size := by simp
    omega
  have ht : t.data.toList.length = t.size := by simp
  rw [h1, List.take_append, hl, show e + t.size - e = t.size by omega, List.take_of_length_le (l := s.data.toList.take e) (by omega), List.take_append, List.take_of_length_le (l := t.data.toList) (by omega), ht, Nat.sub_self, List.take_zero, List.append_nil]
  rw [List.drop_append_of_le_length (by omega)]

theorem size_longer (s t : ByteArray) (e : Nat) (he : e ≤ s.size) : (s.extract 0 e ++ t ++ s.extract e s.size).size = s.size + t.size := by
  rw [ByteArray.size_append, ByteArray.size_append, ByteArray.size_extract, ByteArray.size_extract]
  omega

/-- the whole of a string -/
theorem rs_whole (l : List UInt8) : rs ⟨l.toArray⟩ 0 l.length = l := by
  unfold rs
  simp

/-- 'string(b)' of such a slice -/
theorem conv_own {w : World} {B : Nat} {v : Value} {l : List UInt8} (h : Owns w B v l) (hne : 0 < l.length) :
    (convert 24 9 v).run Tryf.prog w = .ok (.string ⟨l.toArray⟩) w := by
  have h' : w.ownsRow B 5 1 v l.length (l.map bcell) := h
  obtain ⟨h1, h2⟩ := h
  rcases h2 with ⟨_, h2⟩ | ⟨g, cap, cur, rfl, hg, r⟩
  · omega
  · refine run_convert_bytes_back (P := Tryf.prog) w 24 9 5 ⟨g, 0, none⟩ cap l Tryf.underlying24 Tryf.underlying5 Tryf.underlying9 (fun j hj => ?_)
    exact h'.cells rfl j _ (by rw [List.getElem?_map, List.getElem?_eq_getElem hj]; rfl)

end Go.Proofs.Qxb6612892aFmt
