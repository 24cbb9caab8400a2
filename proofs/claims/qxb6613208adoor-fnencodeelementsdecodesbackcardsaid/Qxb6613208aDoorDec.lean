/-
  THE CONTRACT of the laws' reader zzDecodesTo.
-/
import Derived.Test.Qxb6613208aDoorArgs
namespace Go.Proofs.Qxb6613208aDoor
open Go.RowKit
set_option linter.unusedVariables false

/-- the buffer holds S up to p -/
def BufAt (w wr : World) (nb N : Nat) (S : Nat → Nat) (p : Nat) : Prop :=
  ∃ f : Nat → Nat, Row wr nb N f ∧ Free wr nb ∧ Kp [] w wr ∧ ∀ j, j < p → f j = S j

theorem BufAt.set {w wr : World} {nb N p : Nat} {S : Nat → Nat} (h : BufAt w wr nb N S p) (hb : w.heap.size ≤ nb) (hS : S p < 256) : BufAt w (wr.setCell ⟨nb, p, none⟩ (.int .u8 (S p : Nat))) nb N S (p + 1) := by
  obtain ⟨f, h1, h2, h3, h4⟩ := h
  refine ⟨upd f p (S p), h1.set p (S p) hS, h2.set _ _, h3.setCell (Or.inr hb) _, fun j hj => ?_⟩
  by_cases e : j = p
  · subst e; exact upd_same _ _ _
  · rw [upd_other _ _ _ _ e]; exact h4 j (by omega)

theorem BufAt.cell {w wr : World} {nb N p : Nat} {S : Nat → Nat} (h : BufAt w wr nb N S p) (j : Nat) (hj : j < p) (hp : p ≤ N) : wr.cell? ⟨nb, j, none⟩ = some (.int .u8 (S j : Nat)) := by
  obtain ⟨f, h1, _, _, h4⟩ := h
  rw [h1.c j (by omega), h4 j hj]

theorem BufAt.some {w wr : World} {nb N p : Nat} {S : Nat → Nat} (h : BufAt w wr nb N S p) (j : Nat) (hj : j < N) : ∃ y : Nat, wr.cell? ⟨nb, j, none⟩ = some (.int .u8 y) := by
  obtain ⟨f, h1, _⟩ := h
  exact ⟨_, h1.c j hj⟩

theorem BufAt.free {w wr : World} {nb N p : Nat} {S : Nat → Nat} (h : BufAt w wr nb N S p) (j : Nat) : wr.frozen? ⟨nb, j, none⟩ = false := by
  obtain ⟨f, _, h2, _⟩ := h
  exact h2 j

theorem BufAt.kp {w wr : World} {nb N p : Nat} {S : Nat → Nat} (h : BufAt w wr nb N S p) : Kp [] w wr := by
  obtain ⟨f, _, _, h3, _⟩ := h
  exact h3

theorem BufAt.kept {w wr wx : World} {nb N p : Nat} {S : Nat → Nat} (h : BufAt w wr nb N S p) (hk : Kp [] wr wx) (hb : nb < wr.heap.size) : BufAt w wx nb N S p := by
  obtain ⟨f, h1, h2, h3, h4⟩ := h
  exact ⟨f, h1.kept hk (by simp), h2.kept hk (by simp) hb, h3.trans hk, h4⟩

set_option maxHeartbeats 16000000 in
set_option maxRecDepth 100000 in
/-- zzDecodesTo -/
theorem c8 (b s d L c from0 N n m : Nat) (S g : Nat → Nat) (lb : Bool) (w : World) (hG : Row w b n g) (hS : Row w s N S) (hW : Steps S g m (d, from0, false) (d + L, N, lb)) (hn : d + L ≤ n) (hM : n ≤ 1048576) (hN : N ≤ 1048576) :
    Calls Tryd.prog 8 #[.slice (some ⟨b, d, none⟩) L c, .slice (some ⟨s, 0, none⟩) N N, .int .i64 from0] w fun e w' => e = .returned (.bool true) ∧ Kp [] w w' := by
  have HG : Hid (Row w b n g) := hG
  have HS : Hid (Row w s N S) := hS
  have HW : Hid (Steps S g m (d, from0, false) (d + L, N, lb)) := hW
  have hle := Steps.le hW
  simp only at hle
  obtain ⟨wz, hrun, z1, z2, z3, z4⟩ := made N w hN
  have HZ : Hid (BufAt w wz w.heap.size N S 0) := ⟨_, z1, z2, z3, fun j hj => by omega⟩
  clear hG hS hW z1 z2 z3
  go_enter Tryd.func8, Tryd.ntmps8
  go_wp2_with fail
  clear hrun
  go_loopw [8] (fun kv wr => ∃ k : Nat, k ≤ from0 ∧ kv = .int .i64 k ∧ BufAt w wr w.heap.size N S k ∧ w.heap.size < wr.heap.size) (fun kv _ => from0 - (intOf kv).toNat)
  case atStart => exact ⟨0, by omega, rfl, HZ.out, z4⟩
  case round =>
    clear HZ z4
    obtain ⟨k, k1, rfl, hb, hsz⟩ := hrel
    have HB : Hid (BufAt w wr w.heap.size N S k) := hb
    by_cases hk : k < from0
    · have c1 := (HS.out.kept hb.kp (by simp)).c k (by omega)
      obtain ⟨y, c2⟩ := hb.some k (by omega)
      have f2 := hb.free k
      have b1 : (k : Int) < (N : Int) := by omega
      have b2 : (0 : Int) ≤ (k : Int) := by omega
      clear hb
      go_wp2_with fail
      go_roundw
      case rel => exact ⟨k + 1, by omega, by go_num, HB.out.set (Nat.le_refl _) (HS.out.r k), by simpa [World.setCell] using hsz⟩
      case measure => simp [intOf]; omega
    · have e : k = from0 := by omega
      subst e
      clear hb
      go_wp2_with fail
      go_loopw [9, 10] (fun pv qv wr => ∃ (pos q m' : Nat) (la : Bool), pv = .int .i64 pos ∧ qv = .int .i64 q ∧ q ≤ L ∧ pos ≤ N ∧ Steps S g m' (d + q, pos, la) (d + L, N, lb) ∧ BufAt w wr w.heap.size N S pos ∧ w.heap.size < wr.heap.size) (fun _ qv _ => L - (intOf qv).toNat)
      case atStart => exact ⟨k, 0, m, false, rfl, rfl, by omega, by omega, HW.out, HB.out, hsz⟩
      case round =>
        clear HB hsz
        obtain ⟨pos, q, m', la, rfl, rfl, hq, hpo, hst, hb, hsz⟩ := hrel
        have HB : Hid (BufAt w wr w.heap.size N S pos) := hb
        have HGr : Hid (Row wr b n g) := HG.out.kept hb.kp (by simp)
        clear hb
        by_cases hqe : q < L
        · cases m' with
          | zero =>
            have e := congrArg Prod.fst (show (d + q, pos, la) = (d + L, N, lb) from hst)
            simp only at e
            omega
          | succ m' =>
            obtain ⟨⟨u1, u2, u3⟩, hs1, hs2⟩ := hst
            have hle2 := Steps.le hs2
            simp only at hle2
            obtain ⟨T, hTg⟩ : ∃ T, T = g (d + q) := ⟨_, rfl⟩
            have hc0 := HGr.out.c (d + q) (by omega)
            have hr0 := HGr.out.r (d + q)
            rw [← hTg] at hc0 hr0
            have qb : (q : Int) < (L : Int) := by omega
            have qb2 : (0 : Int) ≤ (q : Int) := by omega
            have a3 := and3_u8 ⟨T, hr0⟩
            simp only at a3
            rcases hs1 with ⟨l, hla, ⟨x', hh, hu, hby⟩, hp, hl⟩ | ⟨l, o, hc, ho, hss, hp, hl⟩
            · simp only at hla hh hu hby hp hl
              subst hla hp hl hu
              obtain ⟨tm, htm⟩ : ∃ tm, g (d + q) = tm * 4 := by
                rcases hh.2 with ⟨_, _, h⟩ | ⟨_, _, _, _, h, _⟩
                · exact ⟨_, h⟩
                · exact ⟨_, h⟩
              have hl1 := hh.1
              have HH : Hid (IsHead g (d + q) l x') := hh
              have HTM : Hid (g (d + q) = tm * 4) := htm
              have HBY : Hid (∀ k, k < l → g (d + q + 1 + x' + k) = S (pos + k)) := hby
              have HS2 : Hid (Steps S g m' (d + q + 1 + x' + l, pos + l, true) (d + L, N, lb)) := hs2
              have sh : (T : Int) / 4 = (tm : Int) := by omega
              rw [show T % 4 = 0 by omega] at a3
              clear hs2 hh hby htm hTg
              go_wp2_with fail
              rw [show (q : Int) + 1 = ((q + 1 : Nat) : Int) by omega, show (N : Int) - (pos : Int) = ((N - pos : Nat) : Int) by omega]
              refine (c10 b d L c q l x' tm (N - pos) n g _ HGr.out HH.out HTM.out (by omega) (by omega) (by omega) (by omega) (by omega)).mono ?_
              rintro e wD ⟨rfl, rfl⟩
              go_wp2_with fail
              go_loopw [17] (fun kv wx => ∃ k : Nat, k ≤ l ∧ kv = .int .i64 k ∧ BufAt w wx w.heap.size N S (pos + k) ∧ w.heap.size < wx.heap.size) (fun kv _ => l - (intOf kv).toNat)
              case atStart => exact ⟨0, by omega, rfl, HB.out, hsz⟩
              case round =>
                clear HB hsz HGr hc0
                obtain ⟨k, k1, rfl, hb, hsz⟩ := hrel
                have HB : Hid (BufAt w wr w.heap.size N S (pos + k)) := hb
                have hkp := hb.kp
                by_cases hk : k < l
                · have c1 := (HG.out.kept hkp (by simp)).c (d + q + 1 + x' + k) (by omega)
                  rw [HBY.out k hk, show d + q + 1 + x' + k = d + (q + 1 + x' + k) by omega] at c1
                  obtain ⟨y, c2⟩ := hb.some (pos + k) (by omega)
                  have f2 := hb.free (pos + k)
                  clear hb hkp
                  go_wp2_with fail
                  go_roundw
                  case rel => exact ⟨k + 1, by omega, by go_num, HB.out.set (Nat.le_refl _) (HS.out.r (pos + k)), by simpa [World.setCell] using hsz⟩
                  case measure => simp [intOf]; omega
                · have e : k = l := by omega
                  subst e
                  clear hb hkp
                  go_wp2_with fail
                  go_roundw
                  case rel =>
                    refine ⟨pos + k, q + 1 + x' + k, m', true, by go_num, by go_num, by omega, by omega, ?_, HB.out, hsz⟩
                    rw [show d + (q + 1 + x' + k) = d + q + 1 + x' + k by omega]
                    exact HS2.out
                  case measure => simp [intOf]; omega
            · simp only at hc ho hss hp hl
              subst hp hl
              have hc1 := hc
              obtain ⟨h1, h2, h3, h4, h5⟩ := hc1
              obtain ⟨r, rfl⟩ : ∃ r, u1 = d + r := ⟨u1 - d, by omega⟩
              have hqr : q < r := by omega
              have HC : Hid (IsCopy g (d + q) l o (d + r)) := hc
              have HSS : Hid (∀ k, k < l → S (pos + k) = S (pos + k - o)) := hss
              have HS2 : Hid (Steps S g m' (d + r, pos + l, false) (d + L, N, lb)) := hs2
              obtain ⟨kd, hkd⟩ : ∃ kd, kd = T % 4 := ⟨_, rfl⟩
              obtain ⟨tm, htm⟩ : ∃ tm, tm = T / 4 := ⟨_, rfl⟩
              have hkd1 : 1 ≤ kd := by
                rcases h5 with ⟨_, _, _, h, _⟩ | ⟨_, h, _⟩
                · omega
                · omega
              have HKD : Hid (g (d + q) % 4 = kd ∧ g (d + q) / 4 = tm) := by rw [← hTg]; exact ⟨hkd.symm, htm.symm⟩
              have sh : (T : Int) / 4 = (tm : Int) := by omega
              rw [← hkd] at a3
              have hk0 : ((kd : Int) == 0) = false := by simp; omega
              clear hs2 hc hss htm hkd hTg h5
              go_wp2_with fail
              rw [show (q : Int) + 1 = ((q + 1 : Nat) : Int) by omega]
              refine (c11 b d L c q l o r n kd tm g _ HGr.out HC.out HKD.out.1 HKD.out.2 (by omega) (by omega) (by omega)).mono ?_
              rintro e wD ⟨rfl, hkD⟩
              have HBD : Hid (BufAt w wD w.heap.size N S pos) := HB.out.kept hkD hsz
              have hszD : w.heap.size < wD.heap.size := Nat.lt_of_lt_of_le hsz hkD.size
              clear hkD HB hsz HGr hc0
              go_wp2_with fail
              go_loopw [22] (fun kv wx => ∃ k : Nat, k ≤ l ∧ kv = .int .i64 k ∧ BufAt w wx w.heap.size N S (pos + k) ∧ w.heap.size < wx.heap.size) (fun kv _ => l - (intOf kv).toNat)
              case atStart => exact ⟨0, by omega, rfl, HBD.out, hszD⟩
              case round =>
                clear HBD hszD
                obtain ⟨k, k1, rfl, hb, hsz⟩ := hrel
                have HB : Hid (BufAt w wr w.heap.size N S (pos + k)) := hb
                by_cases hk : k < l
                · obtain ⟨t, ht⟩ : ∃ t, pos + k = t + o := ⟨pos + k - o, by omega⟩
                  have c1 := hb.cell t (by omega) (by omega)
                  have hss := HSS.out k hk
                  rw [show pos + k - o = t by omega] at hss
                  rw [← hss] at c1
                  obtain ⟨y, c2⟩ := hb.some (pos + k) (by omega)
                  have f2 := hb.free (pos + k)
                  have ew : IntKind.i64.wrap ((pos : Int) + (k : Int) - (o : Int)) = (t : Int) := by rw [IntWalk.i64_left, IntWalk.wrap64_in _ (by omega)]; omega
                  have ew2 : wrap64 ((pos : Int) + (k : Int) - (o : Int)) = (t : Int) := by rw [IntWalk.wrap64_in _ (by omega)]; omega
                  have b1 : (t : Int) < (N : Int) := by omega
                  have b2 : (0 : Int) ≤ (t : Int) := by omega
                  clear hb ht hss
                  go_wp2_with fail
                  go_roundw
                  case rel => exact ⟨k + 1, by omega, by go_num, HB.out.set (Nat.le_refl _) (HS.out.r (pos + k)), by simpa [World.setCell] using hsz⟩
                  case measure => simp [intOf]; omega
                · have e : k = l := by omega
                  subst e
                  clear hb
                  go_wp2_with fail
                  go_roundw
                  case rel => exact ⟨pos + k, r, m', false, by go_num, by go_num, by omega, by omega, HS2.out, HB.out, hsz⟩
                  case measure => simp [intOf]; omega
        · have hle2 := Steps.le hst
          simp only at hle2
          have hm0 : m' = 0 := by omega
          subst hm0
          have e := congrArg (fun x : Nat × Nat × Bool => x.2.1) (show (d + q, pos, la) = (d + L, N, lb) from hst)
          simp only at e
          subst e
          clear hst
          go_wp2_with fail
          go_loopw [23] (fun kv wx => ∃ j : Nat, j ≤ pos ∧ kv = .int .i64 j ∧ BufAt w wx w.heap.size pos S pos) (fun kv _ => pos - (intOf kv).toNat)
          case atStart => exact ⟨k, by omega, rfl, HB.out⟩
          case round =>
            clear HB hsz HGr
            obtain ⟨j, j1, rfl, hb⟩ := hrel
            have HB : Hid (BufAt w wr w.heap.size pos S pos) := hb
            have hkp := hb.kp
            by_cases hj : j < pos
            · have c1 := hb.cell j hj (Nat.le_refl _)
              have c2 := (HS.out.kept hkp (by simp)).c j hj
              have b1 : (j : Int) < (pos : Int) := by omega
              have b2 : (0 : Int) ≤ (j : Int) := by omega
              have hsz := lt_of_cell c1
              clear hb hkp
              go_wp2_with fail
              go_quiet (fail)
              go_wp2_with fail
              go_roundw
              case rel => exact ⟨j + 1, by omega, by go_num, HB.out.kept ((Kp.refl [] _).drewN _) hsz⟩
              case measure => simp [intOf]; omega
            · clear hb
              go_wp2_with fail
              go_ret
              exact ⟨rfl, hkp⟩

end Go.Proofs.Qxb6613208aDoor
