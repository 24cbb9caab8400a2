/-
  THE CONTRACT of reset, on a table that holds noughts.
-/
import Derived.Test.Qxb6613208aDoorTab
import Derived.Test.Qxb6613208aDoorBlit
import Derived.Test.Qxb6613208aDoorLen
import Derived.Lib.SliceRun
import Derived.BigFrame
namespace Go.Proofs.Qxb6613208aDoor
open Go.RowKit
set_option linter.unusedVariables false

/-- a new table -/
structure Tbl0 (w : World) (t : Nat) : Prop where
  s : w.cell? ⟨t, 0, none⟩ = some (.int .u64 0)
  e : ∀ k, k < 16384 → w.cell? ⟨t, 1 + k, none⟩ = some (.int .u16 0)
  f : Free w t

theorem zero34 (w : World) : (zeroValue 34).run Tryd.prog w = .ok (.int .u16 0) w := by kernel_rfl

/-- the builtin clear, on a new table whose first cell has been set -/
theorem cleared (t s m : Nat) (z : Int) (w : World) (hT : Tbl0 w t) (hz : z = (s : Int)) (hs : s ≤ 6) (h0 : 0 < m) (hm : m ≤ 16384) :
    ∃ wz, (Builtin.clear_ #[46] 0 #[.slice (some ⟨t, 1, none⟩) m 16384]).run Tryd.prog (w.setCell ⟨t, 0, none⟩ (.int .u64 z)).drew = .ok (.tuple #[]) wz ∧ Tbl wz t 0 ∧ Kp [t] w wz := by
  subst hz
  have hfree : Free (w.setCell ⟨t, 0, none⟩ (.int .u64 s)).drew t := fun k => (hT.f.set _ _) k
  have hcell : ∀ j, j < 16384 → (w.setCell ⟨t, 0, none⟩ (.int .u64 s)).drew.cell? ⟨t, 1 + j, none⟩ = some (.int .u16 0) := fun j hj => by
    show (w.setCell ⟨t, 0, none⟩ (.int .u64 s)).cell? ⟨t, 1 + j, none⟩ = _
    rw [World.cell?_setCell_other _ _ _ _ (by intro e; have := congrArg Addr.off e; simp only at this; omega)]
    exact hT.e j hj
  have hsh : (w.setCell ⟨t, 0, none⟩ (.int .u64 s)).drew.cell? ⟨t, 0, none⟩ = some (.int .u64 s) := World.cell?_setCell_same _ _ _ hT.s
  have hk : Kp [t] w (w.setCell ⟨t, 0, none⟩ (.int .u64 s)).drew := ((Kp.refl [t] _).setCell (Or.inl (by simp)) _).drew
  generalize (w.setCell ⟨t, 0, none⟩ (.int .u64 s)).drew = W at hfree hcell hsh hk ⊢
  refine ⟨_, Lib.run_clear_slice _ 46 34 0 (.int .u16 0) Tryd.underlying46 zero34 rfl rfl t 1 m 16384 h0 (fun j hj => by rw [hcell j (by omega)]; rfl) (fun j hj => hfree _), ⟨⟨s, hs, ?_⟩, fun k hk => ⟨0, by omega, ?_⟩, ?_⟩, ?_⟩
  · rw [World.cell?_setCells_out t _ _ _ _ (fun _ _ => Or.inl (by simp))]
    exact hsh
  · by_cases h : k < m
    · rw [World.cell?_setCells_in t _ 1 _ (fun j hj => by rw [hcell j (by simp at hj; omega)]; rfl) k (by simpa using h)]
      simp
    · rw [World.cell?_setCells_out t _ _ _ _ (fun _ _ => Or.inr (by simp; omega))]
      exact hcell k hk
  · exact hfree.laid _ _ _
  · exact Kp.setCells _ _ hk (Or.inl (by simp))

set_option maxHeartbeats 4000000 in
set_option maxRecDepth 100000 in
/-- reset -/
theorem c13 (t n : Nat) (w : World) (hT : Tbl0 w t) (hn : n ≤ 1048576) :
    Calls Tryd.prog 13 #[.pointer (some ⟨t, 0, none⟩), .int .i64 n] w fun e w' => e = .returned (.tuple #[]) ∧ Tbl w' t 0 ∧ Kp [t] w w' := by
  have HT : Hid (Tbl0 w t) := hT
  have c0 := hT.s
  have f0 := hT.f 0
  clear hT
  go_enter Tryd.func13, Tryd.ntmps13
  go_wp2_with fail
  refine (bits_Len (max ((n : Int) - 1) 0) _ (by omega) (by omega)).mono ?_
  rintro e w2 ⟨rfl, rfl⟩
  generalize Lib.bitLen (max ((n : Int) - 1) 0).toNat = L
  have hB : min (max (L : Int) 8) 14 = 8 ∨ min (max (L : Int) 8) 14 = 9 ∨ min (max (L : Int) 8) 14 = 10 ∨ min (max (L : Int) 8) 14 = 11 ∨ min (max (L : Int) 8) 14 = 12 ∨ min (max (L : Int) 8) 14 = 13 ∨ min (max (L : Int) 8) 14 = 14 := by omega
  rcases hB with hB | hB | hB | hB | hB | hB | hB
  · obtain ⟨wz, hrun, hTz, hKz⟩ := cleared t 6 256 6 w2 HT.out rfl (by omega) (by omega) (by omega)
    have HTZ : Hid (Tbl wz t 0) := hTz
    have HKZ : Hid (Kp [t] w2 wz) := hKz
    clear hTz hKz
    go_wp2_with fail
    go_region
    all_goals
      go_end0
      exact ⟨rfl, HTZ.out, HKZ.out⟩
  · obtain ⟨wz, hrun, hTz, hKz⟩ := cleared t 5 512 5 w2 HT.out rfl (by omega) (by omega) (by omega)
    have HTZ : Hid (Tbl wz t 0) := hTz
    have HKZ : Hid (Kp [t] w2 wz) := hKz
    clear hTz hKz
    go_wp2_with fail
    go_region
    all_goals
      go_end0
      exact ⟨rfl, HTZ.out, HKZ.out⟩
  · obtain ⟨wz, hrun, hTz, hKz⟩ := cleared t 4 1024 4 w2 HT.out rfl (by omega) (by omega) (by omega)
    have HTZ : Hid (Tbl wz t 0) := hTz
    have HKZ : Hid (Kp [t] w2 wz) := hKz
    clear hTz hKz
    go_wp2_with fail
    go_region
    all_goals
      go_end0
      exact ⟨rfl, HTZ.out, HKZ.out⟩
  · obtain ⟨wz, hrun, hTz, hKz⟩ := cleared t 3 2048 3 w2 HT.out rfl (by omega) (by omega) (by omega)
    have HTZ : Hid (Tbl wz t 0) := hTz
    have HKZ : Hid (Kp [t] w2 wz) := hKz
    clear hTz hKz
    go_wp2_with fail
    go_region
    all_goals
      go_end0
      exact ⟨rfl, HTZ.out, HKZ.out⟩
  · obtain ⟨wz, hrun, hTz, hKz⟩ := cleared t 2 4096 2 w2 HT.out rfl (by omega) (by omega) (by omega)
    have HTZ : Hid (Tbl wz t 0) := hTz
    have HKZ : Hid (Kp [t] w2 wz) := hKz
    clear hTz hKz
    go_wp2_with fail
    go_region
    all_goals
      go_end0
      exact ⟨rfl, HTZ.out, HKZ.out⟩
  · obtain ⟨wz, hrun, hTz, hKz⟩ := cleared t 1 8192 1 w2 HT.out rfl (by omega) (by omega) (by omega)
    have HTZ : Hid (Tbl wz t 0) := hTz
    have HKZ : Hid (Kp [t] w2 wz) := hKz
    clear hTz hKz
    go_wp2_with fail
    go_region
    all_goals
      go_end0
      exact ⟨rfl, HTZ.out, HKZ.out⟩
  · obtain ⟨wz, hrun, hTz, hKz⟩ := cleared t 0 16384 0 w2 HT.out rfl (by omega) (by omega) (by omega)
    have HTZ : Hid (Tbl wz t 0) := hTz
    have HKZ : Hid (Kp [t] w2 wz) := hKz
    clear hTz hKz
    go_wp2_with fail
    go_region
    all_goals
      go_end0
      exact ⟨rfl, HTZ.out, HKZ.out⟩

end Go.Proofs.Qxb6613208aDoor
