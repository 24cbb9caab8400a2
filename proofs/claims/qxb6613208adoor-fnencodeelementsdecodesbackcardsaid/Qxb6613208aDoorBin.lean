/-
  THE CONTRACTS of the little-endian readers and of load32.
-/
import Derived.Test.Qxb6613208aDoorRows
import Derived.Test.Qxb6613208aDoorMem
import Derived.Lib.Walk
import Derived.Stop.LaidErr
import Derived.WalkKit
import Derived.Lib.EndianBits
import Derived.RegionTactic
import Derived.BigQuiet
import Derived.BigRegion
import Derived.Deep.RegionWith
namespace Go.Proofs.Qxb6613208aDoor
open Go.RowKit
set_option linter.unusedVariables false

set_option maxHeartbeats 4000000 in
set_option maxRecDepth 100000 in
/-- LittleEndian.Uint32 -/
theorem c27 (b o n c N : Nat) (f : Nat → Nat) (w : World) (hn : 4 ≤ n) (hR : Row w b N f) (hN : o + 4 ≤ N) :
    Calls Tryd.prog 27 #[.agg #[], .slice (some ⟨b, o, none⟩) n c] w fun e w' => e = .returned (.int .u32 (le4 f o)) ∧ Kp [] w w' := by
  have c0 := hR.c o (by omega)
  have c1 := hR.c (o + 1) (by omega)
  have c2 := hR.c (o + 2) (by omega)
  have c3 := hR.c (o + 3) (by omega)
  have h0 := hR.r o
  have h1 := hR.r (o + 1)
  have h2 := hR.r (o + 2)
  have h3 := hR.r (o + 3)
  have hv : ((le4 f o : Nat) : Int) = (f o : Int) + (f (o + 1) : Int) * 256 + (f (o + 2) : Int) * 65536 + (f (o + 3) : Int) * 16777216 := by
    simp only [le4]
    omega
  have d0 := cell?_alloc_old (.cells #[] 51) c0
  have d1 := cell?_alloc_old (.cells #[] 51) c1
  have d2 := cell?_alloc_old (.cells #[] 51) c2
  have d3 := cell?_alloc_old (.cells #[] 51) c3
  have q0 : 0 < n := by omega
  have q1 : (1 : Int) < (n : Int) := by omega
  have q2 : (2 : Int) < (n : Int) := by omega
  have q3 : (3 : Int) < (n : Int) := by omega
  clear hR
  go_enter Tryd.func27, Tryd.ntmps27
  go_wp2
  go_quiet (fail)
  go_wp2
  go_ret
  refine ⟨?_, by repeat (first | apply Kp.drew | apply Kp.drewN | apply Kp.alloc | exact Kp.refl _ _)⟩
  simp (disch := omega) only [u32_or8, u32_or16, u32_or24]
  rw [hv]
  rfl

set_option maxHeartbeats 8000000 in
set_option maxRecDepth 100000 in
/-- LittleEndian.Uint64 -/
theorem c22 (b o n c N : Nat) (f : Nat → Nat) (w : World) (hn : 8 ≤ n) (hR : Row w b N f) (hN : o + 8 ≤ N) :
    Calls Tryd.prog 22 #[.agg #[], .slice (some ⟨b, o, none⟩) n c] w fun e w' => e = .returned (.int .u64 (le8 f o)) ∧ Kp [] w w' := by
  have c0 := hR.c o (by omega)
  have h0 := hR.r o
  have c1 := hR.c (o + 1) (by omega)
  have h1 := hR.r (o + 1)
  have c2 := hR.c (o + 2) (by omega)
  have h2 := hR.r (o + 2)
  have c3 := hR.c (o + 3) (by omega)
  have h3 := hR.r (o + 3)
  have c4 := hR.c (o + 4) (by omega)
  have h4 := hR.r (o + 4)
  have c5 := hR.c (o + 5) (by omega)
  have h5 := hR.r (o + 5)
  have c6 := hR.c (o + 6) (by omega)
  have h6 := hR.r (o + 6)
  have c7 := hR.c (o + 7) (by omega)
  have h7 := hR.r (o + 7)
  have d0 := cell?_alloc_old (.cells #[] 51) c0
  have d1 := cell?_alloc_old (.cells #[] 51) c1
  have d2 := cell?_alloc_old (.cells #[] 51) c2
  have d3 := cell?_alloc_old (.cells #[] 51) c3
  have d4 := cell?_alloc_old (.cells #[] 51) c4
  have d5 := cell?_alloc_old (.cells #[] 51) c5
  have d6 := cell?_alloc_old (.cells #[] 51) c6
  have d7 := cell?_alloc_old (.cells #[] 51) c7
  have q0 : 0 < n := by omega
  have q1 : (1 : Int) < (n : Int) := by omega
  have q2 : (2 : Int) < (n : Int) := by omega
  have q3 : (3 : Int) < (n : Int) := by omega
  have q4 : (4 : Int) < (n : Int) := by omega
  have q5 : (5 : Int) < (n : Int) := by omega
  have q6 : (6 : Int) < (n : Int) := by omega
  have q7 : (7 : Int) < (n : Int) := by omega
  have hv : ((le8 f o : Nat) : Int) = (f o : Int) + (f (o + 1) : Int) * 256 + (f (o + 2) : Int) * 65536 + (f (o + 3) : Int) * 16777216 + (f (o + 4) : Int) * 4294967296 + (f (o + 5) : Int) * 1099511627776 + (f (o + 6) : Int) * 281474976710656 + (f (o + 7) : Int) * 72057594037927936 := by
    simp only [le8, le4, Nat.add_assoc, Nat.reduceAdd]
    omega
  clear hR
  go_enter Tryd.func22, Tryd.ntmps22
  go_wp2
  go_quiet (fail)
  go_wp2
  go_ret
  refine ⟨?_, by repeat (first | apply Kp.drew | apply Kp.drewN | apply Kp.alloc | exact Kp.refl _ _)⟩
  simp (disch := omega) only [u64_or8, u64_or16, u64_or24, u64_or32, u64_or40, u64_or48, u64_or56]
  rw [hv]
  rfl

set_option maxHeartbeats 4000000 in
set_option maxRecDepth 100000 in
/-- load32 -/
theorem c21 (b i n c N : Nat) (f : Nat → Nat) (w : World) (hR : Row w b N f) (hn : i + 4 ≤ n) (hN : n ≤ N) (hc : n ≤ c) (hM : c ≤ 1048576) :
    Calls Tryd.prog 21 #[.slice (some ⟨b, 0, none⟩) n c, .int .i64 i] w fun e w' => e = .returned (.int .u32 (le4 f i)) ∧ Kp [] w w' := by
  have HR : Hid (Row w b N f) := hR
  clear hR
  go_enter Tryd.func21, Tryd.ntmps21
  go_wp2_with fail
  go_region_with (go_at_call 27; refine (c27 b i _ _ N f _ (by omega) ((HR.out.kept (Kp.refl [] _).drew (by simp))) (by omega)).mono ?_; rintro e w2 ⟨rfl, hk⟩)
  all_goals (go_wp2_with fail; go_ret; exact ⟨rfl, (Kp.refl [] _).drew.trans hk⟩)

end Go.Proofs.Qxb6613208aDoor
