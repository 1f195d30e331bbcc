/-
  Seat b6626330a: (*longLine).locate, .at.
-/
import Derived.Test.Qxb6626330aW7
namespace Go.Proofs.Qxb6626330a
open Go.RowKit

/-- What a look-up leaves: the longLine as it was, but for the block looked up last. -/
def Looked (w w' : World) (L : Nat) (ps : List (List Int)) (en : Nat) : Prop := ∃ k, k < ps.length ∧ LL w' L ps en k ∧ Below L w w'

set_option maxHeartbeats 1000000 in
theorem locate22 (L : Nat) (ps : List (List Int)) (en rd x : Nat) (w : World) (hN : ps.length ≤ 1048577) (hT : pre ps ps.length ≤ 1048576) (hf : Full ps) (hl : LL w L ps en rd) (hr : rd < ps.length) (hx : x < pre ps ps.length) :
    Calls Try.prog 22 #[.pointer (some ⟨L, 0, none⟩), .int .i64 (x : Nat)] w fun e w' => ∃ k : Nat, In ps x k ∧ e = .returned (.tuple #[.int .i64 (k : Nat), .int .i64 ((x : Int) - (pre ps k : Nat))]) ∧ Looked w w' L ps en := by
  obtain ⟨ab, cb, s, cs, k0, k1, k2, k3, k4, hblk, hsL, hc, hfz, hLs⟩ := hl.cells
  have hxb : x ≤ 1048576 := by omega
  have g0 := hc rd (by omega)
  have g1 := hc (rd + 1) (by omega)
  have HL : Hid (LL w L ps en rd) := hl
  have HC : Hid (Full ps ∧ x < pre ps ps.length) := ⟨hf, hx⟩
  have hps := pre_mono ps rd ps.length (by omega) (Nat.le_refl _)
  clear hc hfz hblk hl hf hx
  by_cases h1 : pre ps rd ≤ x
  · by_cases h2 : x < pre ps (rd + 1)
    · have d1 : decide (((pre ps rd : Nat) : Int) ≤ (x : Int)) = true := decide_eq_true (by omega)
      have d2 : decide ((x : Int) < ((pre ps (rd + 1) : Nat) : Int)) = true := decide_eq_true (by omega)
      have HI : Hid (In ps x rd) := ⟨hr, h1, h2⟩
      obtain ⟨y, hy⟩ : ∃ y, pre ps rd = y := ⟨_, rfl⟩
      rw [hy] at g0 h1 d1 hps
      have HY : Hid (pre ps rd = y) := hy
      clear hy
      go_enter Try.func22, Try.ntmps22
      go_wp2
      go_quiet (fail)
      go_wp2
      go_ret2
      refine ⟨rd, HI.out, ?_, ⟨rd, hr, HL.out.drewN _, below_drewN' (Below.refl _ _) _⟩⟩
      rw [HY.out]
      rfl
    · have d1 : decide (((pre ps rd : Nat) : Int) ≤ (x : Int)) = true := decide_eq_true (by omega)
      have d2 : decide ((x : Int) < ((pre ps (rd + 1) : Nat) : Int)) = false := decide_eq_false (by omega)
      go_enter Try.func22, Try.ntmps22
      go_wp2_with fail
      refine (search23 L ps en rd x w hN hT HC.out.1 HL.out hr HC.out.2 (fun h => h2 h.2.2)).mono ?_
      rintro e w1 ⟨k, q, hin, rfl, hw⟩
      have R : Hid (Looked w w1 L ps en) := by
        rw [hw]
        exact ⟨k, hin.1, (HL.out.setRead k).drewN q, below_drewN' (below_setL (Nat.le_refl _) _ _) q⟩
      have HI : Hid (In ps x k) := hin
      clear hw hin
      go_wp2
      go_ret2
      exact ⟨k, HI.out, rfl, R.out⟩
  · have d1 : decide (((pre ps rd : Nat) : Int) ≤ (x : Int)) = false := decide_eq_false (by omega)
    go_enter Try.func22, Try.ntmps22
    go_wp2_with fail
    refine (search23 L ps en rd x w hN hT HC.out.1 HL.out hr HC.out.2 (fun h => h1 h.2.1)).mono ?_
    rintro e w1 ⟨k, q, hin, rfl, hw⟩
    have R : Hid (Looked w w1 L ps en) := by
      rw [hw]
      exact ⟨k, hin.1, (HL.out.setRead k).drewN q, below_drewN' (below_setL (Nat.le_refl _) _ _) q⟩
    have HI : Hid (In ps x k) := hin
    clear hw hin
    go_wp2
    go_ret2
    exact ⟨k, HI.out, rfl, R.out⟩

set_option maxHeartbeats 400000 in
/-- at: the byte at offset x of the line. -/
theorem at20 (L : Nat) (ps : List (List Int)) (en rd : Nat) (z : Int) (x : Nat) (w : World) (hN : ps.length ≤ 1048577) (hT : pre ps ps.length ≤ 1048576) (hf : Full ps) (hl : LL w L ps en rd) (hr : rd < ps.length) (hx : x < pre ps ps.length) (hz : z = (x : Int)) :
    Calls Try.prog 20 #[.pointer (some ⟨L, 0, none⟩), .int .i64 z] w fun e w' => e = .returned (.int .u8 (ps.flatten.getD x 0)) ∧ Looked w w' L ps en := by
  subst hz
  obtain ⟨v, hv⟩ : ∃ v, ps.flatten.getD x 0 = v := ⟨_, rfl⟩
  rw [hv]
  have HV : Hid (ps.flatten.getD x 0 = v) := hv
  clear hv
  go_enter Try.func20, Try.ntmps20
  go_wp2_with fail
  refine (locate22 L ps en rd x w hN hT hf hl hr hx).mono ?_
  rintro e w1 ⟨k, hin, rfl, hlk⟩
  have hfa := flat_at ps x k hin
  obtain ⟨k', hk', hl', hbel⟩ := id hlk
  obtain ⟨ab, cb, s, cs, k0, k1, k2, k3, k4, hblk, hsL, hc, hfz, hLs⟩ := hl'.cells
  obtain ⟨b, off, a', c', ha, hca, hbyt⟩ := hblk.at hin.1
  obtain ⟨hk, h1, h2⟩ := hin
  have hj : x - pre ps k < (ps.getD k []).length := by have := pre_succ ps k hk; omega
  obtain ⟨b', off', hb', hcj⟩ := hbyt.at hj
  have g := hcj (x - pre ps k) hj
  rw [hfa, HV.out] at g
  obtain ⟨j, hjj⟩ : ∃ j, x - pre ps k = j := ⟨_, rfl⟩
  rw [hjj] at g hj
  have ez : ((x : Int) - ((pre ps k : Nat) : Int)) = (j : Int) := by omega
  rw [ez]
  subst ha hb'
  have R : Hid (Looked w w1 L ps en) := hlk
  clear hc hfz hblk hlk hl' hcj hbyt hfa hbel hl hx h1 h2 hjj ez hf
  generalize (ps.getD k []).length = m at hca hj
  go_wp2
  go_ret
  exact ⟨rfl, R.out⟩
end Go.Proofs.Qxb6626330a
