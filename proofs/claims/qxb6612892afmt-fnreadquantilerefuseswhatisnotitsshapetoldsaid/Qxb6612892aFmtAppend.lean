/-
  THE CONTRACT of appendDouble.
-/
import Derived.Test.Qxb6612892aFmtRows
import Derived.Test.Qxb6612892aFmtMem
import Derived.Test.Qxb6612892aFmtPlain
import Derived.WalkLawsBesides
import Derived.OwnWalk
namespace Go.Proofs.Qxb6612892aFmt
open Go.RowKit
set_option linter.unusedVariables false

theorem Tryf.info5 : (Tryf.prog.info? 5).map (fun i => (i.zero, i.size, i.bytes)) = some (some (.int .u8 0), 1, 1) := by kernel_rfl

def bcell (c : UInt8) : Value := .int .u8 (c.toNat : Int)

/-- v is a slice of the call's own, its blocks from B on, with the bytes l -/
def Owns (w : World) (B : Nat) (v : Value) (l : List UInt8) : Prop := w.ownsRow B 5 1 v l.length (l.map bcell)

def byteK (b : Int) (k : Nat) : UInt8 := UInt8.ofNat ((b / 2 ^ (8 * k)) % 256).toNat

def dbl (b : Int) (k : Nat) : List UInt8 := (List.range k).map (byteK b)

theorem dbl_len (b : Int) (k : Nat) : (dbl b k).length = k := by simp [dbl]

theorem dbl_succ (b : Int) (k : Nat) : dbl b (k + 1) = dbl b k ++ [byteK b k] := by simp [dbl, List.range_succ]

theorem bcell_byteK (b : Int) (k : Nat) : bcell (byteK b k) = .int .u8 (b / 2 ^ (8 * k) % 256) := by
  unfold bcell byteK
  have h0 : 0 ≤ b / 2 ^ (8 * k) % 256 := Int.emod_nonneg _ (by decide)
  have h1 : b / 2 ^ (8 * k) % 256 < 256 := Int.emod_lt_of_pos _ (by decide)
  generalize b / 2 ^ (8 * k) % 256 = x at h0 h1
  congr 1
  simp
  omega

set_option maxRecDepth 100000 in
set_option maxHeartbeats 1000000 in
theorem c6 (B : Nat) (v : Value) (l : List UInt8) (tag : UInt8) (b : Int) (w : World) (hB : B ≤ w.heap.size) (hown : Owns w B v l) (hl : l.length ≤ 100) (h0 : 0 ≤ b) (h1 : b ≤ 18446744073709551615) :
    Calls Tryf.prog 6 #[v, .int .u8 (tag.toNat : Int), .int .u64 b] w fun e w' => ∃ v', e = .returned v' ∧ Owns w' B v' (l ++ tag :: dbl b 8) ∧ Below B w w' := by
  obtain ⟨i0, hi, hz0, hz1, hz2⟩ := info_parts Tryf.info5
  unfold Owns at hown ⊢
  go_enter Tryf.func6, Tryf.ntmps6
  go_wp2_with (first
    | (at_builtin; refine wpList_append_own _ rfl _ _ 24 rfl B 5 i0 (.int .u8 0) 1 1 Tryf.underlying24 hi hz0 hz1 hz2 rfl (by decide) _ _ _ rfl (hown.alloc _) ⟨w.heap.size, 0, none⟩ 1 1 [bcell tag] rfl rfl ?c1 ?c2 ?c3 ?c4 ?c5 ?_))
  case c1 =>
    intro j u hj
    match j, hj with
    | 0, hj => simp at hj; subst hj; simp [Addr.add, bcell]
  case c2 => intro u hu; simp at hu; subst hu; rfl
  case c3 => unfold maxLen; omega
  case c4 => omega
  case c5 => simp; omega
  intro v1 w1 hown1 hgrow1 _
  have HO1 : Hid (Owns w1 B v1 (l ++ tag :: dbl b 0)) := by
    show w1.ownsRow B 5 1 v1 (l ++ tag :: dbl b 0).length ((l ++ tag :: dbl b 0).map bcell)
    rw [show l ++ tag :: dbl b 0 = l ++ [tag] from rfl, List.length_append, List.map_append]
    exact hown1
  have HB1 : Hid (Below B w w1) := by
    refine Below.grown ((Below.refl B w).alloc hB _) hgrow1 (by simp; omega) ?_
    intro k hk
    exact (hown.lt k hk).1
  clear hown1 hgrow1
  go_wp2_with fail
  go_loopw [0, 7] (fun vv i wr => ∃ k : Nat, k ≤ 8 ∧ i = .int .i64 k ∧ Owns wr B vv (l ++ tag :: dbl b k) ∧ Below B w wr) (fun _ i _ => 8 - (intOf i).toNat)
  case atStart => exact ⟨0, by omega, rfl, HO1.out, HB1.out⟩
  case round =>
    clear HO1 HB1
    obtain ⟨k, hk, rfl, ho, hb⟩ := hrel
    have hz := hb.size
    by_cases hlt : k < 8
    · unfold Owns at ho
      have hll : (l ++ tag :: dbl b k).length ≤ 200 := by simp [dbl_len]; omega
      go_wp2_with (first
        | (at_builtin; refine wpList_append_own _ rfl _ _ 24 rfl B 5 i0 (.int .u8 0) 1 1 Tryf.underlying24 hi hz0 hz1 hz2 rfl (by decide) _ _ _ rfl (ho.alloc _) ⟨wr.heap.size, 0, none⟩ 1 1 [.int .u8 (b / 2 ^ (8 * k) % 256)] rfl rfl ?d1 ?d2 ?d3 ?d4 ?d5 ?_))
      case d1 =>
        intro j u hj
        match j, hj with
        | 0, hj => simp at hj; subst hj; simp [Addr.add]
      case d2 => intro u hu; simp at hu; subst hu; rfl
      case d3 => unfold maxLen; omega
      case d4 => omega
      case d5 => simp; omega
      intro v2 w2 hown2 hgrow2 _
      have HO2 : Hid (Owns w2 B v2 (l ++ tag :: dbl b (k + 1))) := by
        show w2.ownsRow B 5 1 v2 (l ++ tag :: dbl b (k + 1)).length ((l ++ tag :: dbl b (k + 1)).map bcell)
        rw [dbl_succ, show l ++ tag :: (dbl b k ++ [byteK b k]) = (l ++ tag :: dbl b k) ++ [byteK b k] by simp, List.length_append, List.map_append]
        simp only [List.map_cons, List.map_nil, List.length_cons, List.length_nil]
        rw [bcell_byteK]
        have e1 : (l ++ tag :: dbl b k).length + (0 + 1) = l.length + ((dbl b k).length + 1) + 1 := by simp
        have e2 : (l ++ tag :: dbl b k).map bcell ++ [Value.int IntKind.u8 (b / 2 ^ (8 * k) % 256)] = l.map bcell ++ bcell tag :: ((dbl b k).map bcell ++ [Value.int IntKind.u8 (b / 2 ^ (8 * k) % 256)]) := by simp
        rw [e1, e2]
        exact hown2
      have HB2 : Hid (Below B w w2) := by
        refine Below.grown (hb.alloc (by omega) _) hgrow2 (by simp; omega) ?_
        intro k hk
        exact (ho.lt k hk).1
      clear hown2 hgrow2 ho hb
      go_wp2_with fail
      go_roundw
      case rel => exact ⟨k + 1, by omega, by go_num, HO2.out, HB2.out⟩
      case measure => simp [intOf]; omega
    · have e : k = 8 := by omega
      subst e
      go_wp2_with fail
      go_ret
      exact ⟨_, rfl, ho, hb⟩

end Go.Proofs.Qxb6612892aFmt
