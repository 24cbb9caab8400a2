/-
  THE CONTRACTS of PutUint16, emitCopy2.
-/
import Derived.Test.Qxb6613208aDoorBin
import Derived.Deep.DeepCutAuto
import Derived.Deep.RegionHeld3
namespace Go.Proofs.Qxb6613208aDoor
open Go.RowKit
set_option linter.unusedVariables false

/-- f, with a and b at o and o + 1 -/
def put2 (f : Nat → Nat) (o v : Nat) : Nat → Nat := upd (upd f o (v % 256)) (o + 1) (v / 256)

set_option maxHeartbeats 4000000 in
set_option maxRecDepth 100000 in
/-- LittleEndian.PutUint16 -/
theorem c28 (b o n c N v : Nat) (f : Nat → Nat) (w : World) (hn : 2 ≤ n) (hR : Row w b N f) (hF : Free w b) (hN : o + 2 ≤ N) (hv : v < 65536) :
    Calls Tryd.prog 28 #[.agg #[], .slice (some ⟨b, o, none⟩) n c, .int .u16 v] w fun e w' => e = .returned (.tuple #[]) ∧ Row w' b N (put2 f o v) ∧ Free w' b ∧ Kp [b] w w' := by
  have HR : Hid (Row w b N f) := hR
  have HF : Hid (Free w b) := hF
  have hlt := lt_of_cell (hR.c o (by omega))
  have d0 := hR.c o (by omega)
  have d1 := hR.c (o + 1) (by omega)
  have fa0 := hF o
  have fa1 := hF (o + 1)
  have q0 : 0 < n := by omega
  have q1 : (1 : Int) < (n : Int) := by omega
  clear hR hF
  go_enter Tryd.func28, Tryd.ntmps28
  go_wp2
  go_end0
  rw [show (v : Int) % 256 = ((v % 256 : Nat) : Int) by omega, show (v : Int) / 256 = ((v / 256 : Nat) : Int) by omega]
  refine ⟨rfl, ?_, ?_, ?_⟩
  · exact ((HR.out.set o (v % 256) (by omega)).set (o + 1) (v / 256) (by omega)).kept ((Kp.refl [] _).alloc _) (by simp)
  · exact Free.kept ((HF.out.set _ _).set _ _) ((Kp.refl [] _).alloc _) (by simp) (by simpa [World.setCell] using hlt)
  · exact ((((Kp.refl [b] w).setCell (Or.inl (by simp)) _).setCell (Or.inl (by simp)) _).alloc _)

/-- a copy with an offset of two bytes: its three bytes, at d -/
def putC2 (f : Nat → Nat) (d off len : Nat) : Nat → Nat := put2 (upd f d ((len - 1) * 4 + 2)) (d + 1) off

theorem or2_u8 : ∀ k : Fin 64, bits .or .u8 ((k.val : Int) * 4) 2 = (k.val : Int) * 4 + 2 := by decide +kernel

set_option maxHeartbeats 4000000 in
set_option maxRecDepth 100000 in
/-- emitCopy2 -/
theorem c25 (b d off len n : Nat) (f : Nat → Nat) (w : World) (hR : Row w b n f) (hF : Free w b) (hd : d + 3 ≤ n) (hM : n ≤ 1048576) (ho : off ≤ 65535) (hl : 1 ≤ len) (hl2 : len ≤ 64) :
    Calls Tryd.prog 25 #[.slice (some ⟨b, 0, none⟩) n n, .int .i64 d, .int .i64 off, .int .i64 len] w fun e w' => e = .returned (.int .i64 (d + 3 : Nat)) ∧ Row w' b n (putC2 f d off len) ∧ Free w' b ∧ Kp [b] w w' := by
  have HR : Hid (Row w b n f) := hR
  have HF : Hid (Free w b) := hF
  have c0 := hR.c d (by omega)
  have f0 := hF d
  have hlt := lt_of_cell c0
  have b1 : (d : Int) < (n : Int) := by omega
  have b2 : (0 : Int) ≤ (d : Int) := by omega
  obtain ⟨k, hk⟩ : ∃ k : Nat, len = k + 1 := ⟨len - 1, by omega⟩
  have ho2 := or2_u8 ⟨k, by omega⟩
  simp only at ho2
  subst hk
  clear hR hF
  go_enter Tryd.func25, Tryd.ntmps25
  go_wp2_with fail
  have e0 : Row (w.setCell ⟨b, d, none⟩ (.int .u8 ((k : Int) * 4 + 2))) b n (upd f d (k * 4 + 2)) := HR.out.set d (k * 4 + 2) (by omega)
  have e1 : Free (w.setCell ⟨b, d, none⟩ (.int .u8 ((k : Int) * 4 + 2))) b := HF.out.set _ _
  have e2 : Kp [b] w (w.setCell ⟨b, d, none⟩ (.int .u8 ((k : Int) * 4 + 2))) := (Kp.refl [b] w).setCell (Or.inl (by simp)) _
  have e3 : b < (w.setCell ⟨b, d, none⟩ (.int .u8 ((k : Int) * 4 + 2))).heap.size := by simpa [World.setCell] using hlt
  generalize w.setCell ⟨b, d, none⟩ (.int .u8 ((k : Int) * 4 + 2)) = W at e0 e1 e2 e3 ⊢
  have HRW : Hid (Row W b n (upd f d (k * 4 + 2))) := e0
  have HFW : Hid (Free W b) := e1
  have HKW : Hid (Kp [b] w W) := e2
  have ew : IntKind.u16.wrap (off : Int) = (off : Int) := by rw [IntKind.wrap_u16]; omega
  have ed : IntKind.i64.wrap ((d : Int) + 1) = ((d + 1 : Nat) : Int) := by rw [IntWalk.i64_left, IntWalk.wrap64_in _ (by omega)]; omega
  have b3 : ((d + 1 : Nat) : Int) ≤ (n : Int) := by omega
  have b4 : ¬ (n = d + 1) := by omega
  clear e0 e1 e2 c0 f0 hlt HR HF b1 b2 ho2
  go_region_with (go_at_call 28; refine (c28 b (d + 1) (n - (d + 1)) (n - (d + 1)) n off (upd f d (k * 4 + 2)) _ (by omega) (HRW.out.kept (Kp.refl [] _).drew (by simp)) (HFW.out.kept (Kp.refl [] _).drew (by simp) e3) (by omega) (by omega)).mono ?_; rintro e w2 ⟨rfl, hr, hf, hk⟩)
  all_goals
    have HR2 : Hid (Row w2 b n (put2 (upd f d (k * 4 + 2)) (d + 1) off)) := hr
    have HF2 : Hid (Free w2 b) := hf
    have HK2 : Hid (Kp [b] w w2) := HKW.out.trans ((Kp.refl [b] _).drew.trans hk)
    clear hr hf hk
    go_wp2_with fail
    go_ret
    exact ⟨by go_num, HR2.out, HF2.out, HK2.out⟩

end Go.Proofs.Qxb6613208aDoor
