/-
  A NEW TABLE, A NEW ROW.
-/
import Derived.Test.Qxb6613208aDoorWalk12
import Derived.Deep.OwnRows
namespace Go.Proofs.Qxb6613208aDoor
open Go.RowKit
set_option linter.unusedVariables false

set_option maxRecDepth 1000000 in
theorem z37 : ∃ L T : List Value, Tryd.t37.zero = some (.agg L.toArray) ∧ L = .int .u64 0 :: T ∧ T.length = 16384 ∧ ∀ v ∈ T, v = .int .u16 0 := by
  refine ⟨_, _, rfl, rfl, ?_, ?_⟩
  · simp only [List.append_eq, List.length_append, List.length_cons, List.length_nil, Nat.reduceAdd]
  · simp only [List.append_eq, List.forall_mem_append, List.forall_mem_cons, and_self, List.not_mem_nil, false_implies, implies_true]

theorem info37 : Tryd.prog.info? 37 = some Tryd.t37 := by kernel_rfl

/-- what a new table's cells hold -/
theorem zero37 : ∃ C : Array Value, (∀ w, (zeroValue 37).run Tryd.prog w = .ok (.agg C) w) ∧ ∀ w : World, Tbl0 (w.alloc (.cells C 37)) w.heap.size := by
  obtain ⟨L, T, h1, h2, h3, h4⟩ := z37
  refine ⟨L.toArray, fun w => by simp [zeroValue, typeInfo, info37, h1], fun w => ⟨?_, fun k hk => ?_, fun k => ?_⟩⟩
  · rw [World.cell?_alloc_new, h2]
    rfl
  · rw [World.cell?_alloc_new, h2]
    show (Value.int .u64 0 :: T).toArray[1 + k]? = _
    rw [List.getElem?_toArray, Nat.add_comm 1 k, List.getElem?_cons_succ]
    have hk2 : k < T.length := by omega
    rw [List.getElem?_eq_getElem hk2]
    exact congrArg some (h4 _ (List.getElem_mem hk2))
  · rw [World.frozen?_alloc_new]

/-- 'make([]byte, n)' -/
theorem made (n : Nat) (w : World) (hn : n ≤ 1048576) :
    ∃ wz, (Instr.makeSlice 22 (.int .i64 (n : Int)) (.int .i64 (n : Int))).run Tryd.prog w = .ok (.slice (some ⟨w.heap.size, 0, none⟩) n n) wz ∧ Row wz w.heap.size n (fun _ => 0) ∧ Free wz w.heap.size ∧ Kp [] w wz ∧ w.heap.size < wz.heap.size := by
  refine ⟨_, run_make_row' 22 5 (.int .u8 0) 1 Tryd.underlying22 (by kernel_rfl) rfl .i64 .i64 n (by omega) (by omega) w, ⟨fun k hk => ?_, fun k => by omega⟩, fun k => ?_, (Kp.refl [] w).alloc _, by simp⟩
  · rw [World.cell?_alloc_new]
    simp [madeCells, hk, Nat.mod_one]
  · rw [World.frozen?_alloc_new]

set_option maxHeartbeats 4000000 in
set_option maxRecDepth 100000 in
/-- ZZencodeElements -/
theorem c7 (b s d from0 N n : Nat) (S f : Nat → Nat) (w : World) (hR : Row w b n f) (hF : Free w b) (hS : Row w s N S) (hs : s < w.heap.size) (hTab : Tab w) (hsb : s ≠ b) (h1b : 1 ≠ b)
    (hfN : from0 ≤ N) (hN : N ≤ 1048576) (hn : n ≤ 1048576) (hroom : d + (N - from0) + (N - from0) / 6 + 32 ≤ n) :
    Calls Tryd.prog 7 #[.slice (some ⟨b, 0, none⟩) n n, .int .i64 d, .slice (some ⟨s, 0, none⟩) N N, .int .i64 from0] w fun e w' => ∃ (e' m : Nat) (g : Nat → Nat) (lb : Bool), e = .returned (.int .i64 e') ∧ Row w' b n g ∧ Kp [b] w w' ∧ Only f g d e' ∧ Steps S g m (d, from0, false) (e', N, lb) ∧ 8 * e' ≤ 8 * d + 9 * (N - from0) + 8 := by
  have HR : Hid (Row w b n f) := hR
  have HF : Hid (Free w b) := hF
  have HS : Hid (Row w s N S) := hS
  have HTab : Hid (Tab w) := hTab
  have hbl := lt_of_cell (hR.c 0 (by omega))
  have h1l := lt_of_cell (hTab 0 (by omega))
  clear hR hF hS hTab
  obtain ⟨C, hz, hT⟩ := zero37
  have HT : Hid (Tbl0 (w.alloc (.cells C 37)) w.heap.size) := hT w
  have HA : Hid (Kp [] w (w.alloc (.cells C 37))) := (Kp.refl [] w).alloc _
  clear hT
  go_enter Tryd.func7, Tryd.ntmps7
  go_wp2_with fail
  refine (c12 b s w.heap.size d from0 N n S f _ (HR.out.kept HA.out (by simp)) (HF.out.kept HA.out (by simp) hbl) (HS.out.kept HA.out (by simp)) HT.out (fun k hk => (HA.out.cell h1l (by simp)).trans (HTab.out k hk)) hsb (by omega) (by omega) h1b (by omega) hfN hN hn hroom).mono ?_
  rintro e w2 ⟨e', m, g, lb, rfl, h1, h2, h3, h4, h5⟩
  have HN : Hid (Row w2 b n g ∧ Kp [b] w w2 ∧ Only f g d e' ∧ Steps S g m (d, from0, false) (e', N, lb)) := by
    refine ⟨h1, ?_, h3, h4⟩
    have h6 : Kp [b, w.heap.size] w w2 := HA.out.any.trans h2
    exact h6.mono (fun k hk e => by simp at e; simp; omega)
  clear h1 h2 h3 h4
  go_wp2_with fail
  go_ret
  exact ⟨e', m, g, lb, rfl, HN.out.1, HN.out.2.1, HN.out.2.2.1, HN.out.2.2.2, h5⟩

end Go.Proofs.Qxb6613208aDoor
